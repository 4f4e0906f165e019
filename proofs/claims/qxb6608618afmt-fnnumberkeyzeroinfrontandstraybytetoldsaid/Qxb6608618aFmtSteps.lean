import Derived.Test.Qxb6608618aFmtKey
namespace Go.Proofs.Qxb6608618aFmt
open Go.RowKit Go.Joins Go.Kit Go.Extern.Stop Go.Stop Go.Extern
set_option linter.unusedVariables false
set_option linter.unusedSimpArgs false

structure R1 (w w1 : World) (q cs : Array Value) : Prop where
  hq : w1.heap[w.heap.size]? = some (.cells q 25 (0, 0))
  ho : w1.heap[w.heap.size + 1 + 1 + 1 + 1 + 1]? = some (.cells q 30 (0, 0))
  hr : w1.heap[w.heap.size + 1 + 1 + 1 + 1 + 1 + 1 + 1]? = some (.cells cs 30 (0, 0))
  sz : w.heap.size + 8 ≤ w1.heap.size
  bel : Below w.heap.size w w1

theorem below8 (w : World) (q : Array Value) : Below w.heap.size w ((((((((w.alloc (.cells q 25)).alloc (.cells q 25)).alloc (.cells q 25)).alloc (.cells q 25)).alloc (.cells q 30)).alloc (.cells q 30)).alloc (.cells q 25)).alloc (.cells q 30)) :=
  ((((((((Below.refl _ w).alloc (by simp) _).alloc (by simp; try omega) _).alloc (by simp; try omega) _).alloc (by simp; try omega) _).alloc (by simp; try omega) _).alloc (by simp; try omega) _).alloc (by simp; try omega) _).alloc (by simp; try omega) _

theorem Upd.old {b k : Nat} {cs : Array Value} {w w' : World} {o : Obj} (h : Upd b cs w w') (hk : k ≠ b) (hr : w.heap[k]? = some o) : w'.heap[k]? = some o := (h.block k (Array.getElem?_eq_some_iff.1 hr).1 hk).trans hr
theorem Upd.below {b B : Nat} {cs : Array Value} {W w w' : World} (h : Upd b cs w w') (hb : Below B W w) (hB : B ≤ b) (hs : B ≤ w.heap.size) : Below B W w' :=
  hb.trans ⟨h.os, h.tape, h.output, h.size, fun k hk => h.block k (by omega) (by omega)⟩

theorem st1 {w w1 : World} {q cs : Array Value} (ht : Upd (w.heap.size + 1 + 1 + 1 + 1 + 1 + 1 + 1) cs ((((((((w.alloc (.cells q 25)).alloc (.cells q 25)).alloc (.cells q 25)).alloc (.cells q 25)).alloc (.cells q 30)).alloc (.cells q 30)).alloc (.cells q 25)).alloc (.cells q 30)) w1) : R1 w w1 q cs := by
  have a0 := heap_new w (.cells q 25)
  have hsz := ht.size
  simp at hsz
  refine ⟨ht.old (by omega) (heap_old (heap_old (heap_old (heap_old (heap_old (heap_old (heap_old a0))))))), ht.old (by omega) (heap_old (heap_old ?_)), ht.row, by omega, ?_⟩
  · have := heap_new (((((w.alloc (.cells q 25)).alloc (.cells q 25)).alloc (.cells q 25)).alloc (.cells q 25)).alloc (.cells q 30)) (.cells q 30)
    simpa using this
  · exact ht.below (below8 w q) (by omega) (by simp; omega)

structure R2 (w1 w2 : World) (cs : Array Value) : Prop where
  old : ∀ (k : Nat) (o : Obj), w1.heap[k]? = some o → w2.heap[k]? = some o
  row : w2.heap[w1.heap.size + 1]? = some (.cells cs 30 (0, 0))
  sz : w1.heap.size + 2 ≤ w2.heap.size
  bel : ∀ (B : Nat) (W : World), Below B W w1 → B ≤ w1.heap.size → Below B W w2

theorem st2 {w1 w2 : World} {o1 o2 : Obj} {cs : Array Value} (ht : Upd (w1.heap.size + 1) cs ((w1.alloc o1).alloc o2) w2) : R2 w1 w2 cs := by
  have hsz := ht.size
  simp at hsz
  refine ⟨fun k o h => ht.old ?_ (heap_old (heap_old h)), ht.row, by omega, fun B W hb hB => ht.below ((hb.alloc hB _).alloc (by simp; omega) _) (by omega) (by simp; omega)⟩
  have := (Array.getElem?_eq_some_iff.1 h).1
  omega
theorem below2 (w1 : World) (o1 o2 : Obj) : Below w1.heap.size w1 ((w1.alloc o1).alloc o2) := ((Below.refl _ w1).alloc (Nat.le_refl _) _).alloc (by simp) _

theorem ans_mono {v : ByteArray} {a b : Int} {d : Nat} (h : ans v a = some d) (hab : a ≤ b) : ans v b = some d := by
  unfold ans at h ⊢
  split at h
  · split at h
    · injection h with h
      subst h
      rw [if_pos (by omega)]
    · cases h
  · cases h
end Go.Proofs.Qxb6608618aFmt
