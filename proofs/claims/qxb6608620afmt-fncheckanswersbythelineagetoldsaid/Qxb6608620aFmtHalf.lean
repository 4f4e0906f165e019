import Derived.Test.Qxb6608620aFmtMake
import Derived.Test.Qxb6608620aFmtSize2
namespace Go.Proofs.Qxb6608620aFmt
open Go.RowKit Go.Joins Go.Kit
set_option linter.unusedVariables false
set_option linter.unusedSimpArgs false

theorem Place.at {w w' : World} {b n : Nat} {K : Nat → ByteArray} (h : Place w b n K) (hb : w'.heap[b]? = w.heap[b]?) : Place w' b n K := by
  obtain ⟨D, ⟨es, clock, h1, h2⟩, h3⟩ := h
  exact ⟨D, ⟨es, clock, hb.trans h1, h2⟩, h3⟩

theorem wpList_place {ops : Array Oper} {rest : List Oper} {o : Oper} {a : Act} {Q : Exit → Act → World → Prop} (w : World) (hg : o.guard = none) (m x v : Operand) (hop : o.op = Op.mapUpdate 49 m x v)
    (b n : Nat) (K : Nat → ByteArray) (hm : a.eval m = .map (some b)) (hx : a.eval x = .string (K n)) (hv : a.eval v = .int .i64 (n : Int)) (hP : Place w b n K) (hz : (K n).size ≤ 2097152) (hn : n < 4611686018427387904) (hK : ∀ i, i < n → K i ≠ K n)
    (h : ∀ w', Place w' b (n + 1) K → w.grownBy w' (some b) → wpList Tryf.prog ops Q rest (a.put o.dst undef) w') : wpList Tryf.prog ops Q (o :: rest) a w := by
  refine wpList_plain hg fun K' hK' => ?_
  obtain ⟨w', hrun, r1, r2⟩ := hP.put hz hn hK
  unfold Oper.wp
  simp [execOp, hop, hm, hx, hv, hrun, Result.andThen]
  exact hK' _ _ (h w' r1 r2)

/-- a block of texts -/
def Txt (w : World) (b n : Nat) : Prop := ∃ cs : Array Value, w.heap[b]? = some (.cells cs 51 (0, 0)) ∧ cs.size = n * 3
theorem Txt.cell {w : World} {b n : Nat} (h : Txt w b n) {i : Nat} (hi : i < n * 3) : ∃ v, w.cell? ⟨b, i, none⟩ = some v := by
  obtain ⟨cs, h1, h2⟩ := h
  exact ⟨cs[i]'(by omega), rowc h1 i (by simp)⟩
theorem Txt.fr {w : World} {b n : Nat} (h : Txt w b n) (i : Nat) : w.frozen? ⟨b, i, none⟩ = false := by
  obtain ⟨cs, h1, h2⟩ := h
  exact rowf h1 i
theorem Txt.at {w w' : World} {b n : Nat} (h : Txt w b n) (hb : w'.heap[b]? = w.heap[b]?) : Txt w' b n := by
  obtain ⟨cs, h1, h2⟩ := h
  exact ⟨cs, hb.trans h1, h2⟩
theorem Txt.set {w : World} {b n : Nat} (h : Txt w b n) (i : Nat) (v : Value) : Txt (w.setCell ⟨b, i, none⟩ v) b n := by
  obtain ⟨cs, h1, h2⟩ := h
  refine ⟨cs.setIfInBounds i v, ?_, by simpa using h2⟩
  rw [setCell_eq_setRow w b i _ 51 (0, 0) _ h1, setRow_heap w b _ _ 51 _ h1]


theorem addp (b o j : Nat) : (⟨b, o, none⟩ : Addr).add j = ⟨b, o + j, none⟩ := by
  unfold Addr.add
  split
  · rename_i h; subst h; rfl
  · rfl
/-- copy into a new row of zeros -/
theorem copyEq (w : World) (T e ty : TypeId) (hu : Tryf.prog.underlying T = some (.slice e)) (hsz : (Tryf.prog.info? e).map (·.size) = some 1)
    (g m : Nat) (z v : Value) (vs : List Value) (hrow : Row w v vs) (hm : vs.length ≤ m) (hgz : w.heap[g]? = some (.cells (Array.replicate m z) e (0, 0)))
    (h1 : ∀ x ∈ vs, x.oneCell' = true) (B : Nat) (w0 : World) (hb : Below B w0 w) (hBg : B ≤ g) :
    ∃ w', (Builtin.copy_ #[T, T] ty #[.slice (some ⟨g, 0, none⟩) m m, v]).run Tryf.prog w = .ok (goInt vs.length) w' ∧ w'.heap[g]? = some (.cells (vs ++ List.replicate (m - vs.length) z).toArray e (0, 0)) ∧ Below B w0 w' := by
  obtain ⟨sa, sc, rfl, k1, k2, k3⟩ := hrow
  by_cases h0 : vs.length = 0
  · have hn : Nat.min vs.length m = 0 := by rw [h0]; exact Nat.zero_min _
    have hrun := run_copy_none (P := Tryf.prog) w T T ty e (some ⟨g, 0, none⟩) sa m m vs.length sc hu hsz hn
    have hv : vs = [] := List.length_eq_zero_iff.1 h0
    refine ⟨w, by rw [hrun, h0]; rfl, ?_, hb⟩
    rw [hgz, hv]
    simp
  · obtain ⟨b, o', ha, _⟩ := k3 0 (by omega)
    subst ha
    have hrun := run_copy_row (P := Tryf.prog) w T T ty e g 0 m m ⟨b, o', none⟩ vs.length sc (Array.replicate m z) e vs hu hsz hgz (Nat.min_eq_left hm).symm (fun j x hx => ?_) (by simp; omega) h1
    · refine ⟨_, hrun, ?_, below_setRow hb hBg _⟩
      rw [setRow_heap w g _ _ e _ hgz]
      simp
    · have hj := (List.getElem?_eq_some_iff.1 hx).1
      obtain ⟨b2, o2, ha2, hc2⟩ := k3 j hj
      have e1 : (⟨b, o', none⟩ : Addr) = ⟨b2, o2, none⟩ := Option.some.inj ha2
      rw [e1, addp, hc2]
      simp [List.getD, hx]

theorem wpList_load42 {ops : Array Oper} {rest : List Oper} {o : Oper} {a : Act} {Q : Exit → Act → World → Prop} (w : World) (hgd : o.guard = none) (x : Operand) (ho : o.op = .load 42 x) (ad : Addr) (v : Value) (hx : a.eval x = .pointer (some ad)) (hc : w.cell? ad = some v)
    (h : wpList Tryf.prog ops Q rest (a.put o.dst v) w) : wpList Tryf.prog ops Q (o :: rest) a w := by
  refine wpList_plain hgd fun K hK => ?_
  unfold Oper.wp
  simp only [execOp, ho, hx]
  simp [hc, Result.andThen, go_sem]
  exact hK _ _ h
theorem wpList_load22 {ops : Array Oper} {rest : List Oper} {o : Oper} {a : Act} {Q : Exit → Act → World → Prop} (w : World) (hgd : o.guard = none) (x : Operand) (ho : o.op = .load 22 x) (ad : Addr) (v : Value) (hx : a.eval x = .pointer (some ad)) (hc : w.cell? ad = some v)
    (h : wpList Tryf.prog ops Q rest (a.put o.dst v) w) : wpList Tryf.prog ops Q (o :: rest) a w := by
  refine wpList_plain hgd fun K hK => ?_
  unfold Oper.wp
  simp only [execOp, ho, hx]
  simp [hc, Result.andThen, go_sem]
  exact hK _ _ h
theorem wpList_move {ops : Array Oper} {rest : List Oper} {o : Oper} {a : Act} {Q : Exit → Act → World → Prop} (w : World) (hgd : o.guard = none) (x : Operand) (ho : o.op = .move x)
    (h : wpList Tryf.prog ops Q rest (a.put o.dst (a.eval x)) w) : wpList Tryf.prog ops Q (o :: rest) a w := by
  refine wpList_plain hgd fun K hK => ?_
  unfold Oper.wp
  simp only [execOp, ho]
  simp [Result.andThen]
  exact hK _ _ h
theorem wpList_copyAt {ops : Array Oper} {rest : List Oper} {o : Oper} {a : Act} {Q : Exit → Act → World → Prop} (w : World) (hgd : o.guard = none) (d s : Operand) (T : TypeId)
    (hop : o.op = .call { callee := .builtin .copy, args := #[d, s], argTypes := #[T, T] }) (dv sv : Value) (hd : a.eval d = dv) (hs : a.eval s = sv) (w' : World) (r : Value)
    (hrun : (Builtin.copy_ #[T, T] o.type #[dv, sv]).run Tryf.prog w = .ok r w') (h : wpList Tryf.prog ops Q rest (a.put o.dst r) w') : wpList Tryf.prog ops Q (o :: rest) a w := by
  refine wpList_plain hgd fun K hK => ?_
  unfold Oper.wp
  simp [execOp, hop, resolve, invoke, builtin, hd, hs, hrun, Result.andThen]
  exact hK _ _ h

/-- a slice in blocks from B on that holds vs -/
def RowA (w : World) (B : Nat) (v : Value) (vs : List Value) : Prop := ∃ a c, v = .slice a vs.length c ∧ vs.length ≤ c ∧ c ≤ maxLen ∧ ∀ i, i < vs.length → ∃ b o, a = some ⟨b, o, none⟩ ∧ B ≤ b ∧ w.cell? ⟨b, o + i, none⟩ = some (vs.getD i undef)
theorem RowA.at {w w' : World} {B : Nat} {v : Value} {vs : List Value} (h : RowA w B v vs) (hb : ∀ k, B ≤ k → k < w.heap.size → w'.heap[k]? = w.heap[k]?) : RowA w' B v vs := by
  obtain ⟨a, c, h1, h2, h3, h4⟩ := h
  refine ⟨a, c, h1, h2, h3, fun i hi => ?_⟩
  obtain ⟨b, o, e1, e2, e3⟩ := h4 i hi
  exact ⟨b, o, e1, e2, (World.cell?_of_block (hb b e2 (World.block_lt_of_cell? w _ e3))).trans e3⟩
theorem RowA.row {w : World} {B : Nat} {v : Value} {vs : List Value} (h : RowA w B v vs) : Row w v vs := by
  obtain ⟨a, c, h1, h2, h3, h4⟩ := h
  refine ⟨a, c, h1, h2, h3, fun i hi => ?_⟩
  obtain ⟨b, o, e1, e2, e3⟩ := h4 i hi
  exact ⟨b, o, e1, e3⟩

/-- the first k of n rows have been copied -/
def Half (w : World) (P n k : Nat) (e : TypeId) (X : Nat → List Value) : Prop := ∃ cs : List Value, w.heap[P]? = some (.cells cs.toArray e (0, 0)) ∧ cs.length = n ∧ (∀ j, k ≤ j → j < n → cs[j]? = some (.slice none 0 0)) ∧ ∀ j, j < k → ∃ v, cs[j]? = some v ∧ RowA w (P + 1) v (X j)
theorem Half.start (w : World) (n : Nat) (e : TypeId) (X : Nat → List Value) : Half (w.alloc (.cells (Array.replicate n (.slice none 0 0)) e)) w.heap.size n 0 e X :=
  ⟨List.replicate n (.slice none 0 0), heap_new _ _, by simp, (fun j _ hj => by simp [hj]), fun j hj => absurd hj (Nat.not_lt_zero _)⟩
theorem Half.lt {w : World} {P n k : Nat} {e : TypeId} {X : Nat → List Value} (h : Half w P n k e X) : P < w.heap.size := by
  obtain ⟨cs, h1, _⟩ := h
  exact lt_of h1
theorem Half.skip {w : World} {P n k : Nat} {e : TypeId} {X : Nat → List Value} (h : Half w P n k e X) (hk : k < n) (hX : X k = []) : Half w P n (k + 1) e X := by
  obtain ⟨cs, h1, h2, h3, h4⟩ := h
  refine ⟨cs, h1, h2, fun j a b => h3 j (by omega) b, fun j hj => ?_⟩
  by_cases e' : j = k
  · subst e'
    rw [hX]
    exact ⟨_, h3 j (Nat.le_refl _) hk, none, 0, rfl, Nat.le_refl _, Nat.zero_le _, fun i hi => absurd hi (Nat.not_lt_zero _)⟩
  · exact h4 j (by omega)
theorem Half.cell {w : World} {P n k : Nat} {e : TypeId} {X : Nat → List Value} (h : Half w P n k e X) (hk : k < n) : w.cell? ⟨P, k, none⟩ = some (.slice none 0 0) ∧ w.frozen? ⟨P, k, none⟩ = false := by
  obtain ⟨cs, h1, h2, h3, h4⟩ := h
  exact ⟨rowc h1 k (by simpa using h3 k (Nat.le_refl _) hk), rowf h1 k⟩
theorem Half.at {w w' : World} {P n k : Nat} {e : TypeId} {X : Nat → List Value} (h : Half w P n k e X) (hb : Below w.heap.size w w') : Half w' P n k e X := by
  obtain ⟨cs, h1, h2, h3, h4⟩ := h
  refine ⟨cs, blk hb h1 (lt_of h1), h2, h3, fun j hj => ?_⟩
  obtain ⟨v, e1, e2⟩ := h4 j hj
  exact ⟨v, e1, e2.at (fun k _ hk => hb.block k hk)⟩
theorem Half.store {w w' : World} {P n k R : Nat} {e et : TypeId} {X : Nat → List Value} (h : Half w P n k e X) (hk : k < n) (hb : Below w.heap.size w w') (hR : w'.heap[R]? = some (.cells (X k).toArray et (0, 0))) (hPR : P < R) (hl : (X k).length ≤ maxLen) :
    Half (w'.setCell ⟨P, k, none⟩ (.slice (some ⟨R, 0, none⟩) (X k).length (X k).length)) P n (k + 1) e X := by
  obtain ⟨cs, h1, h2, h3, h4⟩ := h.at hb
  have hsame : ∀ q, q ≠ P → (w'.setCell ⟨P, k, none⟩ (.slice (some ⟨R, 0, none⟩) (X k).length (X k).length)).heap[q]? = w'.heap[q]? := fun q hq => Below.heap_setCell _ _ _ _ hq
  refine ⟨cs.set k (.slice (some ⟨R, 0, none⟩) (X k).length (X k).length), ?_, by simpa using h2, fun j a b => ?_, fun j hj => ?_⟩
  · rw [setCell_eq_setRow w' P k _ e (0, 0) _ h1, setRow_heap w' P _ _ e _ h1]
    simp
  · rw [List.getElem?_set_ne (by omega)]
    exact h3 j (by omega) b
  · by_cases e' : j = k
    · subst e'
      refine ⟨_, List.getElem?_set_self (by omega), some ⟨R, 0, none⟩, (X j).length, rfl, Nat.le_refl _, hl, fun i hi => ⟨R, 0, rfl, hPR, ?_⟩⟩
      have hR' := (hsame R (by omega)).trans hR
      rw [Nat.zero_add]
      exact rowc hR' i (by simp [List.getD, hi])
    · obtain ⟨v, e1, e2⟩ := h4 j (by omega)
      exact ⟨v, by rw [List.getElem?_set_ne (by omega)]; exact e1, e2.at (fun q a _ => hsame q (by omega))⟩
theorem Half.rws {w : World} {P n : Nat} {e : TypeId} {X : Nat → List Value} (h : Half w P n n e X) : Rws w (some ⟨P, 0, none⟩) n X := fun i hi => by
  obtain ⟨cs, h1, h2, h3, h4⟩ := h
  obtain ⟨v, e1, e2⟩ := h4 i hi
  exact ⟨P, 0, v, rfl, by rw [Nat.zero_add]; exact rowc h1 i (by simpa using e1), e2.row⟩
theorem one_strs (G : List ByteArray) : ∀ x ∈ strs G, x.oneCell' = true := by
  intro x hx
  obtain ⟨y, _, rfl⟩ := List.mem_map.1 hx
  rfl
theorem one_nats (E : List Nat) : ∀ x ∈ nats E, x.oneCell' = true := by
  intro x hx
  obtain ⟨y, _, rfl⟩ := List.mem_map.1 hx
  rfl

end Go.Proofs.Qxb6608620aFmt
