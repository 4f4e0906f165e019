import Derived.Test.Qxb6608620aFmtCover2
import Derived.Test.Qxb6608620aFmtSize2
import Derived.Deep.LoopGhost
namespace Go.Proofs.Qxb6608620aFmt
open Go.RowKit Go.Joins Go.Kit Go.Extern.Stop Go.Stop Go.Extern
set_option linter.unusedVariables false
set_option linter.unusedSimpArgs false

/-- of the blocks that were there only ba may have turned -/
structure Keep (ba : Nat) (w w' : World) : Prop where
  os : w'.os = w.os
  tape : w'.tape = w.tape
  output : w'.output = w.output
  size : w.heap.size ≤ w'.heap.size
  block : ∀ k, k < w.heap.size → k ≠ ba → w'.heap[k]? = w.heap[k]?

theorem Keep.refl (ba : Nat) (w : World) : Keep ba w w := ⟨rfl, rfl, rfl, Nat.le_refl _, fun _ _ _ => rfl⟩
theorem Keep.grown {ba k : Nat} {w wr w' : World} (h : Keep ba w wr) (hg : wr.grownBy w' (some k)) (hk : w.heap.size ≤ k) : Keep ba w w' :=
  ⟨hg.os.trans h.os, hg.tape.trans h.tape, hg.output.trans h.output, Nat.le_trans h.size hg.size, fun i hi hn => (hg.block i (Nat.lt_of_lt_of_le hi h.size) (by intro e; injection e with e; omega)).trans (h.block i hi hn)⟩
theorem Keep.alloc {ba : Nat} {w wr : World} (h : Keep ba w wr) (o : Obj) : Keep ba w (wr.alloc o) :=
  ⟨h.os, h.tape, h.output, by simp; have := h.size; omega, fun i hi hn => (Below.heap_alloc wr o i (Nat.lt_of_lt_of_le hi h.size)).trans (h.block i hi hn)⟩
theorem Keep.upd {ba : Nat} {o : Obj} {w wr w' : World} (h : Keep ba w wr) (hu : Upd ba o wr w') : Keep ba w w' :=
  ⟨hu.os.trans h.os, hu.tape.trans h.tape, hu.output.trans h.output, Nat.le_trans h.size hu.size, fun i hi hn => (hu.block i (Nat.lt_of_lt_of_le hi h.size) hn).trans (h.block i hi hn)⟩
theorem Keep.toUpd {ba : Nat} {o : Obj} {w wr : World} (h : Keep ba w wr) (hr : wr.heap[ba]? = some o) : Upd ba o w wr := ⟨h.os, h.tape, h.output, h.size, hr, h.block⟩

theorem cell_keep {ba : Nat} {w wr : World} {x : Bool} {t : TypeId} {a : Addr} {v : Value} (hK : Keep ba w wr) (hb : w.heap[ba]? = some (.cells #[.bool x] t (0, 0))) (h : w.cell? a = some v) (hv : ∀ y, v ≠ .bool y) : wr.cell? a = some v := by
  by_cases e : a.block = ba
  · exfalso
    unfold World.cell? at h
    rw [e, hb] at h
    simp only [] at h
    split at h
    · cases h
    · cases ho : a.off with
      | zero =>
        rw [ho] at h
        simp at h
        exact hv x h.symm
      | succ m =>
        rw [ho] at h
        simp at h
  · exact (World.cell?_of_block (hK.block a.block (World.block_lt_of_cell? w a h) e)).trans h

def NB (v : Value) : Prop := ∀ y, v ≠ .bool y
theorem Row.keep {ba : Nat} {w wr : World} {x : Bool} {t : TypeId} {v : Value} {vs : List Value} (h : Row w v vs) (hK : Keep ba w wr) (hb : w.heap[ba]? = some (.cells #[.bool x] t (0, 0))) (hv : ∀ i, i < vs.length → NB (vs.getD i undef)) : Row wr v vs := by
  obtain ⟨a, c, h1, h2, h3, h4⟩ := h
  refine ⟨a, c, h1, h2, h3, fun i hi => ?_⟩
  obtain ⟨b, o, e1, e2⟩ := h4 i hi
  exact ⟨b, o, e1, cell_keep hK hb e2 (hv i hi)⟩
theorem Rws.keep {ba : Nat} {w wr : World} {x : Bool} {t : TypeId} {a : Option Addr} {n : Nat} {X : Nat → List Value} (h : Rws w a n X) (hK : Keep ba w wr) (hb : w.heap[ba]? = some (.cells #[.bool x] t (0, 0))) (hv : ∀ j, j < n → ∀ i, i < (X j).length → NB ((X j).getD i undef)) : Rws wr a n X := fun j hj => by
  obtain ⟨b, o, v, e1, e2, e3⟩ := h j hj
  refine ⟨b, o, v, e1, cell_keep hK hb e2 ?_, e3.keep hK hb (hv j hj)⟩
  obtain ⟨a', c', rfl, _⟩ := e3
  intro y hy
  cases hy
theorem nb_strs (G : List ByteArray) : ∀ i, i < (strs G).length → NB ((strs G).getD i undef) := fun i hi y hy => by
  rw [len_strs] at hi
  rw [strs_get hi] at hy
  cases hy
theorem nats_get {E : List Nat} {j : Nat} (h : j < E.length) : (nats E).getD j undef = .int .i64 ((E.getD j 0 : Nat) : Int) := by
  simp [List.getD, h]
theorem len_nats (E : List Nat) : (nats E).length = E.length := by simp
theorem nb_nats (E : List Nat) : ∀ i, i < (nats E).length → NB ((nats E).getD i undef) := fun i hi y hy => by
  rw [len_nats] at hi
  rw [nats_get hi] at hy
  cases hy

theorem SeenI.at {w w' : World} {b m : Nat} {S : List Nat} (h : SeenI w b S m) (hb : w'.heap[b]? = w.heap[b]?) : SeenI w' b S m := by
  obtain ⟨D, ⟨es, clock, h1, h2⟩, h3⟩ := h
  exact ⟨D, ⟨es, clock, hb.trans h1, h2⟩, h3⟩
theorem SeenI.lt {w : World} {b m : Nat} {S : List Nat} (h : SeenI w b S m) : b < w.heap.size := by
  obtain ⟨D, h1, _⟩ := h
  exact h1.lt

/-- the stack: v holds st in a block from B on -/
def Stk (w : World) (B : Nat) (v : Value) (st : List Nat) : Prop := w.ownsRow B 3 1 v st.length (nats st)
theorem Stk.shape {w : World} {B : Nat} {v : Value} {st : List Nat} (h : Stk w B v st) : ∃ a c, v = .slice a st.length c ∧ st.length ≤ c ∧ c ≤ maxLen := by
  rcases h.2 with ⟨h1, h2⟩ | ⟨g, cap, cur, h1, _, _, h2, h3, _⟩
  · exact ⟨none, 0, by rw [h1, h2], by omega, by omega⟩
  · exact ⟨_, cap, h1, h2, h3⟩
theorem Stk.top {w : World} {B : Nat} {v : Value} {st : List Nat} {u : Nat} (h : Stk w B v (st ++ [u])) : ∃ g c, v = .slice (some ⟨g, 0, none⟩) (st.length + 1) c ∧ B ≤ g ∧ st.length + 1 ≤ c ∧ c ≤ maxLen ∧ w.cell? ⟨g, st.length, none⟩ = some (.int .i64 (u : Int)) ∧ Stk w B (.slice (some ⟨g, 0, none⟩) st.length c) st := by
  rcases h.2 with ⟨h1, h2⟩ | ⟨g, cap, cur, h1, h2, h3, h4, h5, h6, h7⟩
  · simp at h2
  · simp at h1 h4 h7
    refine ⟨g, cap, h1, h2, h4, h5, ?_, ⟨by simp, .inr ⟨g, cap, cur, rfl, h2, h3, by omega, h5, h6, ?_⟩⟩⟩
    · rw [cell_of_row w g _ cur 3 (0, 0) h3]
      have := congrArg (fun l => l[st.length]?) h7
      simp [List.getElem?_take] at this
      exact this
    · have := congrArg (List.take st.length) h7
      simp [List.take_take] at this
      simpa using this
theorem Stk.at {w w' : World} {B : Nat} {v : Value} {st : List Nat} (h : Stk w B v st) (hb : ∀ k, B ≤ k → k < w.heap.size → w'.heap[k]? = w.heap[k]?) : Stk w' B v st := by
  refine ⟨h.1, ?_⟩
  rcases h.2 with h1 | ⟨g, cap, cur, h1, h2, h3, h4⟩
  · exact .inl h1
  · exact .inr ⟨g, cap, cur, h1, h2, (hb g h2 (lt_of h3)).trans h3, h4⟩

/-- a policy at p -/
def Pol (w : World) (p n : Nat) (K : Nat → ByteArray) (E : Nat → List Nat) (G : Nat → List ByteArray) : Prop :=
  ∃ t mb gc pc ga pa tx gr, w.heap[p]? = some (.cells #[.pointer none, .pointer (some ⟨t, 0, none⟩), .slice ga n gc, gr] 62 (0, 0)) ∧ w.heap[t]? = some (.cells #[tx, .map (some mb), .slice pa n pc] 71 (0, 0)) ∧
    Place w mb n K ∧ Rws w pa n (fun i => nats (E i)) ∧ Rws w ga n (fun i => strs (G i))
theorem Place.lt {w : World} {b n : Nat} {K : Nat → ByteArray} (h : Place w b n K) : b < w.heap.size := by
  obtain ⟨D, h1, _⟩ := h
  exact h1.lt
theorem Pol.later {w w' : World} {p n : Nat} {K : Nat → ByteArray} {E : Nat → List Nat} {G : Nat → List ByteArray} (h : Pol w p n K E G) (hb : Below w.heap.size w w') : Pol w' p n K E G := by
  obtain ⟨t, mb, gc, pc, ga, pa, tx, gr, h1, h2, h3, h4, h5⟩ := h
  exact ⟨t, mb, gc, pc, ga, pa, tx, gr, blk hb h1 (lt_of h1), blk hb h2 (lt_of h2), h3.later hb h3.lt, h4.later hb (Nat.le_refl _), h5.later hb (Nat.le_refl _)⟩

theorem tmpl_some (p n : Nat) (K : Nat → ByteArray) (E : Nat → List Nat) (G : Nat → List ByteArray) (i : Nat) (w : World) (hP : Pol w p n K E G) (hi : i < n) (hz : (K i).size ≤ 2097152) (hn : n ≤ 2097152) :
    Calls Tryf.prog 18 #[.pointer (some ⟨p, 0, none⟩), .string (K i)] w fun e w' => e = .returned (.tuple #[.int .i64 (i : Int), .nilIface]) ∧ w' = w := by
  obtain ⟨t, mb, gc, pc, ga, pa, tx, gr, h1, h2, h3, h4, h5⟩ := hP
  have c1 := rowc h1 1 rfl
  have c2 := rowc h2 1 rfl
  have hl := h3.look hi hz
  simp at c1 c2
  clear h1 h2 h3 h4 h5
  go_enter Tryf.func18, Tryf.ntmps18
  go_wp2
  go_ret2
  exact ⟨rfl, rfl⟩

theorem tmpl_none (F : Interp) (p n : Nat) (K : Nat → ByteArray) (E : Nat → List Nat) (G : Nat → List ByteArray) (s : ByteArray) (w : World) (hF : F.answers w.tape) (hP : Pol w p n K E G) (hs : ∀ i, i < n → s ≠ K i) (hz : s.size ≤ 2097152) :
    Calls Tryf.prog 18 #[.pointer (some ⟨p, 0, none⟩), .string s] w fun e w' => (∃ x, e = .returned (.tuple #[.int .i64 0, .iface 83 x])) ∧ Below w.heap.size w w' := by
  obtain ⟨t, mb, gc, pc, ga, pa, tx, gr, h1, h2, h3, h4, h5⟩ := hP
  have c1 := rowc h1 1 rfl
  have c2 := rowc h2 1 rfl
  obtain ⟨c, hl⟩ := h3.miss hs hz
  have HF := hide hF
  simp at c1 c2
  clear h1 h2 h3 h4 h5 hs hF
  go_enter Tryf.func18, Tryf.ntmps18
  go_wp2_with (first | (go_at_call 24; go_must (refine (err1 F _ s _ _ (by exact HF.out) (by kernel_rfl) (by intro w; kernel_rfl) (newc rfl rfl)).mono ?_; rintro e w' ⟨T, rfl, hw⟩; rw [hw]; clear hw w')))
  go_ret2
  exact ⟨⟨_, rfl⟩, (((Below.refl _ w).alloc (Nat.le_refl _) _).alloc (by simp) _).drew⟩
end Go.Proofs.Qxb6608620aFmt
