import Derived.Test.Qxb6608620aFmtGrown
import Derived.Test.Qxb6608620aFmtLine2
namespace Go.Proofs.Qxb6608620aFmt
open Go.RowKit Go.Joins Go.Kit
set_option linter.unusedVariables false
set_option linter.unusedSimpArgs false

/-- the search's state: Q has been met, the first h of it have been followed -/
structure Bfs (E : Nat → List Nat) (t n : Nat) (Q : List Nat) (h : Nat) : Prop where
  all : ∀ u ∈ Q, Reach E t u ∧ u < n
  root : t ∈ Q
  shut : ∀ i u, i < h → Q[i]? = some u → ∀ v ∈ E u, v ∈ Q
  len : Q.length + unseen n Q ≤ n
/-- .. and of the next one the first j parents too -/
structure Bfs2 (E : Nat → List Nat) (t n : Nat) (Q : List Nat) (h u j : Nat) : Prop where
  base : Bfs E t n Q h
  cur : Q[h]? = some u
  part : ∀ v ∈ (E u).take j, v ∈ Q

variable {E : Nat → List Nat} {t n : Nat} {Q : List Nat} {h u j : Nat}
theorem unseen_one (h : t < n) : 1 + unseen n [t] ≤ n := by
  have h1 := unseen_lt (S := []) h (by simp)
  have h2 := unseen_nil n
  omega
theorem Bfs.start (h : t < n) : Bfs E t n [t] 0 := ⟨fun u hu => by rw [List.mem_singleton.1 hu]; exact ⟨.refl, h⟩, by simp, fun i u hi => absurd hi (Nat.not_lt_zero _), unseen_one h⟩
theorem Bfs.open_ (b : Bfs E t n Q h) (hu : Q[h]? = some u) : Bfs2 E t n Q h u 0 := ⟨b, hu, by simp⟩
theorem Bfs2.close (b : Bfs2 E t n Q h u (E u).length) : Bfs E t n Q (h + 1) := by
  refine ⟨b.base.all, b.base.root, fun i x hi hx => ?_, b.base.len⟩
  by_cases e : i = h
  · subst e
    rw [b.cur] at hx
    injection hx with hx
    subst hx
    have := b.part
    rwa [List.take_length] at this
  · exact b.base.shut i x (by omega) hx
theorem take_step {l : List Nat} (hj : j < l.length) {v : Nat} (hv : v ∈ l.take (j + 1)) : v ∈ l.take j ∨ v = l.getD j 0 := by
  rw [List.take_succ_eq_append_getElem hj] at hv
  rcases List.mem_append.1 hv with h1 | h1
  · exact .inl h1
  · right
    simp [List.getD, hj]
    simpa using h1
theorem Bfs2.skip (b : Bfs2 E t n Q h u j) (hj : j < (E u).length) (hq : (E u).getD j 0 ∈ Q) : Bfs2 E t n Q h u (j + 1) := by
  refine ⟨b.base, b.cur, fun v hv => ?_⟩
  rcases take_step hj hv with h1 | rfl
  · exact b.part v h1
  · exact hq
theorem Bfs2.push (b : Bfs2 E t n Q h u j) (hj : j < (E u).length) {q : Nat} (hq : q = (E u).getD j 0) (hn : q < n) (hQ : q ∉ Q) : Bfs2 E t n (Q ++ [q]) h u (j + 1) := by
  have hmem : q ∈ E u := by rw [hq]; simp [List.getD, hj]
  have hu := b.base.all u (List.mem_of_getElem? b.cur)
  have hl : h < Q.length := (List.getElem?_eq_some_iff.1 b.cur).1
  have hun : unseen n (Q ++ [q]) < unseen n Q := by
    refine countP_lt_of (u := q) _ ?_ (by simpa using hn) (by simpa using hQ) (by simp)
    intro x hx
    simp at hx ⊢
    exact hx.1
  refine ⟨⟨fun x hx => ?_, by simp [b.base.root], fun i x hi hx v hv => ?_, ?_⟩, ?_, fun v hv => ?_⟩
  · rcases List.mem_append.1 hx with h1 | h1
    · exact b.base.all x h1
    · rw [List.mem_singleton.1 h1]
      exact ⟨.step hu.1 hmem, hn⟩
  · rw [List.getElem?_append_left (by omega)] at hx
    exact List.mem_append_left _ (b.base.shut i x hi hx v hv)
  · have := b.base.len
    rw [List.length_append]
    simp
    omega
  · rw [List.getElem?_append_left hl]
    exact b.cur
  · rcases take_step hj hv with h1 | rfl
    · exact List.mem_append_left _ (b.part v h1)
    · rw [← hq]; simp
theorem Bfs.done (b : Bfs E t n Q h) (hh : Q.length ≤ h) : Reach E t u ↔ u ∈ Q := by
  constructor
  · intro hr
    exact hr (fun x => x ∈ Q) b.root (fun x v ih hv => by
      obtain ⟨i, hi, he⟩ := List.getElem_of_mem ih
      exact b.shut i x (by omega) (by rw [← he]; exact List.getElem?_eq_getElem hi) v hv)
  · exact fun hu => (b.all u hu).1

/-- the row 'reach' -/
def bools (n : Nat) (Q : List Nat) : Array Value := ((List.range n).map (fun u => Value.bool (Q.contains u))).toArray
theorem bools_get {n u : Nat} {Q : List Nat} (h : u < n) : (bools n Q)[u]? = some (.bool (Q.contains u)) := by simp [bools, h]
theorem bools_nil (n : Nat) : bools n [] = Array.replicate n (.bool false) := by
  apply Array.ext
  · simp [bools]
  · intro i h1 h2
    simp [bools]
theorem bools_set {n q : Nat} {Q : List Nat} (h : q < n) : (bools n Q).setIfInBounds q (.bool true) = bools n (Q ++ [q]) := by
  apply Array.ext
  · simp [bools]
  · intro i h1 h2
    simp only [bools, List.setIfInBounds_toArray, List.getElem_toArray]
    rw [List.getElem_set]
    split
    · rename_i e
      subst e
      simp
    · rename_i e
      simp
      intro e2
      exact absurd e2.symm e
theorem Stk.get {w : World} {B : Nat} {v : Value} {st : List Nat} {i : Nat} (h : Stk w B v st) (hi : i < st.length) : ∃ g c, v = .slice (some ⟨g, 0, none⟩) st.length c ∧ B ≤ g ∧ st.length ≤ c ∧ c ≤ maxLen ∧ w.cell? ⟨g, i, none⟩ = some (.int .i64 ((st.getD i 0 : Nat) : Int)) := by
  rcases h.2 with ⟨h1, h2⟩ | ⟨g, cap, cur, h1, h2, h3, h4, h5, h6, h7⟩
  · omega
  · refine ⟨g, cap, h1, h2, h4, h5, ?_⟩
    rw [cell_of_row w g _ cur 3 (0, 0) h3]
    have := congrArg (fun l => l[i]?) h7
    simp [List.getElem?_take, hi] at this
    simp [List.getD, hi, this]
theorem Stk.made (w : World) (n : Nat) (hn : n ≤ 4294967296) (B : Nat) (hB : B ≤ w.heap.size) : Stk (w.alloc (.cells (Array.replicate n (.int .i64 0)) 3)) B (.slice (some ⟨w.heap.size, 0, none⟩) 0 n) [] :=
  ⟨by simp, .inr ⟨w.heap.size, n, _, rfl, hB, heap_new _ _, Nat.zero_le _, by unfold maxLen; omega, by simp, by simp⟩⟩
theorem cell_one_at {w : World} {x : Value} {t : TypeId} {k : Nat} (hk : k = w.heap.size) : ∀ j u, [x][j]? = some u → (w.alloc (.cells #[x] t)).cell? ((⟨k, 0, none⟩ : Addr).add j) = some u := by
  subst hk
  exact cell_one_new w x t
theorem push_keep {wr w' : World} {B : Nat} {v : Value} {st : List Nat} {o : Obj} (hs : Stk wr B v st) (hg : (wr.alloc o).grownBy w' v.ownBlock) : ∀ k, k < B → k < wr.heap.size → w'.heap[k]? = wr.heap[k]? := fun k hk1 hk2 =>
  (hg.block k (by simp; omega) (fun e => by have := stk_own hs k e.symm; omega)).trans (Below.heap_alloc _ _ _ hk2)
theorem push_below {W wr w' : World} {B : Nat} {v : Value} {st : List Nat} {o : Obj} (hs : Stk wr B v st) (hg : (wr.alloc o).grownBy w' v.ownBlock) (hb : Below W.heap.size W wr) (h1 : W.heap.size ≤ B) (h2 : W.heap.size ≤ wr.heap.size) : Below W.heap.size W w' := by
  have h3 := hg.size
  refine ⟨hg.os.trans hb.os, hg.tape.trans hb.tape, hg.output.trans hb.output, by simp at h3; omega, fun k hk => (push_keep hs hg k (by omega) (by omega)).trans (hb.block k hk)⟩
/-- one append to the stack -/
theorem Stk.app {w3 : World} {B : Nat} {v' : Value} {st : List Nat} {x : Nat} (h : w3.ownsRow B 3 1 v' (st.length + 1) (nats st ++ [.int .i64 (x : Int)])) : Stk w3 B v' (st ++ [x]) := by
  show w3.ownsRow B 3 1 v' (st ++ [x]).length (nats (st ++ [x]))
  have e7 : nats (st ++ [x]) = nats st ++ [.int .i64 (x : Int)] := by simp
  rw [e7, List.length_append]
  exact h
theorem mk42q (n : Nat) (hn : n ≤ 4294967296) (w : World) : (Instr.makeSlice 42 (.int .i64 0) (.int .i64 (n : Int))).run Tryf.prog w = .ok (.slice (some ⟨w.heap.size, 0, none⟩) 0 n) (w.alloc (.cells (Array.replicate n (.int .i64 0)) 3)) := by
  obtain ⟨i0, hi, hz0, hz1, hz2⟩ := info_parts info3'
  have h := run_make (P := Tryf.prog) w 42 3 i0 (.int .i64 0) Tryf.underlying42 hi hz0 .i64 .i64 0 n (by omega) (by omega) (by rw [hz2]; omega) (by omega)
  rw [h, made_one _ rfl, hz1]
  simp
end Go.Proofs.Qxb6608620aFmt
