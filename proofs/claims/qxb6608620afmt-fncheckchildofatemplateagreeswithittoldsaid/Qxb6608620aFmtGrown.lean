import Derived.Test.Qxb6608620aFmtHalf
import Derived.Test.Qxb6608620aFmtCover
import Derived.Deep.Slices
import Derived.Laws.IdiomStrings
namespace Go.Proofs.Qxb6608620aFmt
open Go.RowKit Go.Joins Go.Kit
set_option linter.unusedVariables false
set_option linter.unusedSimpArgs false

/-- the fresh keys -/
def childK (L : Nat) : ByteArray := ⟨(List.replicate (L + 1) 122).toArray⟩
def ownK (L : Nat) : ByteArray := ⟨(121 :: List.replicate L 122).toArray⟩
theorem size_childK (L : Nat) : (childK L).size = L + 1 := by show (List.replicate (L + 1) 122).toArray.size = _; simp
theorem size_ownK (L : Nat) : (ownK L).size = L + 1 := by show (121 :: List.replicate L 122).toArray.size = _; simp
theorem child_ne_own (L : Nat) : childK L ≠ ownK L := by
  intro h
  have h1 : (List.replicate (L + 1) (122 : UInt8)).toArray = (121 :: List.replicate L 122).toArray := congrArg ByteArray.data h
  have h2 := congrArg Array.toList h1
  rw [List.replicate_succ] at h2
  simp at h2

def K2 (K : Nat → ByteArray) (n L i : Nat) : ByteArray := if i < n then K i else if i = n then childK L else ownK L
def E2 (E : Nat → List Nat) (n at_ i : Nat) : List Nat := if i < n then E i else [at_]
def G2 (G : Nat → List ByteArray) (n : Nat) (p : ByteArray) (i : Nat) : List ByteArray := if i < n then G i else if i = n then [] else [p]

theorem K2_lt {K : Nat → ByteArray} {n L i : Nat} (h : i < n) : K2 K n L i = K i := by simp [K2, h]
theorem K2_n (K : Nat → ByteArray) (n L : Nat) : K2 K n L n = childK L := by simp [K2]
theorem K2_n1 (K : Nat → ByteArray) (n L : Nat) : K2 K n L (n + 1) = ownK L := by simp [K2]; omega
theorem E2_lt {E : Nat → List Nat} {n a i : Nat} (h : i < n) : E2 E n a i = E i := by simp [E2, h]
theorem E2_n (E : Nat → List Nat) (n a : Nat) : E2 E n a n = [a] := by simp [E2]
theorem E2_n1 (E : Nat → List Nat) (n a : Nat) : E2 E n a (n + 1) = [a] := by simp [E2]; omega
theorem G2_lt {G : Nat → List ByteArray} {n i : Nat} {p : ByteArray} (h : i < n) : G2 G n p i = G i := by simp [G2, h]
theorem G2_n (G : Nat → List ByteArray) (n : Nat) (p : ByteArray) : G2 G n p n = [] := by simp [G2]
theorem G2_n1 (G : Nat → List ByteArray) (n : Nat) (p : ByteArray) : G2 G n p (n + 1) = [p] := by simp [G2]; omega

theorem apart2 {K : Nat → ByteArray} {n L : Nat} (h : Apart K n) (hL : ∀ i, i < n → (K i).size ≤ L) : Apart (K2 K n L) (n + 2) := by
  have big : ∀ i, i < n → ∀ x : ByteArray, x.size = L + 1 → K i ≠ x := fun i hi x hx e => by
    have := hL i hi
    rw [e, hx] at this
    omega
  intro i j hij hj
  by_cases h1 : j < n
  · rw [K2_lt h1, K2_lt (by omega)]
    exact h i j hij h1
  · by_cases h2 : j = n
    · subst h2
      rw [K2_n, K2_lt hij]
      exact big i hij _ (size_childK L)
    · have h3 : j = n + 1 := by omega
      subst h3
      rw [K2_n1]
      by_cases h4 : i < n
      · rw [K2_lt h4]
        exact big i h4 _ (size_ownK L)
      · have h5 : i = n := by omega
        subst h5
        rw [K2_n]
        exact child_ne_own L

theorem reach_old {E : Nat → List Nat} {n a : Nat} (hE : ∀ i, i < n → ∀ v ∈ E i, v < n) {t u : Nat} (ht : t < n) : Reach (E2 E n a) t u ↔ Reach E t u := by
  constructor
  · intro h
    exact (h.mono (E' := E) (fun x => x < n) ht (fun x hx v hv => by rw [E2_lt hx] at hv; exact ⟨hv, hE x hx v hv⟩)).1
  · intro h
    exact (h.mono (E' := E2 E n a) (fun x => x < n) ht (fun x hx v hv => ⟨by rw [E2_lt hx]; exact hv, hE x hx v hv⟩)).1
theorem reach_lt {E : Nat → List Nat} {n : Nat} (hE : ∀ i, i < n → ∀ v ∈ E i, v < n) {t u : Nat} (ht : t < n) (h : Reach E t u) : u < n := (h.mono (E' := E) (fun x => x < n) ht (fun x hx v hv => ⟨hv, hE x hx v hv⟩)).2
theorem there_iff {E : Nat → List Nat} {n a : Nat} (hE : ∀ i, i < n → ∀ v ∈ E i, v < n) (ha : a < n) {G : Nat → List ByteArray} {p : ByteArray} (cov : ByteArray → Bool) :
    (∃ u, Reach (E2 E n a) a u ∧ (G2 G n p u).any cov = true) ↔ ∃ u, Reach E a u ∧ (G u).any cov = true := by
  constructor
  · rintro ⟨u, h1, h2⟩
    have h3 := (reach_old hE ha).1 h1
    rw [G2_lt (reach_lt hE ha h3)] at h2
    exact ⟨u, h3, h2⟩
  · rintro ⟨u, h1, h2⟩
    exact ⟨u, (reach_old hE ha).2 h1, by rw [G2_lt (reach_lt hE ha h1)]; exact h2⟩
theorem child_iff {E : Nat → List Nat} {n a : Nat} (hE : ∀ i, i < n → ∀ v ∈ E i, v < n) (ha : a < n) {G : Nat → List ByteArray} {p : ByteArray} (cov : ByteArray → Bool) :
    (∃ u, Reach (E2 E n a) n u ∧ (G2 G n p u).any cov = true) ↔ ∃ u, Reach E a u ∧ (G u).any cov = true := by
  constructor
  · rintro ⟨u, h1, h2⟩
    rcases h1.one (E2_n E n a) with rfl | h3
    · rw [G2_n] at h2
      cases h2
    · have h4 := (reach_old hE ha).1 h3
      rw [G2_lt (reach_lt hE ha h4)] at h2
      exact ⟨u, h4, h2⟩
  · rintro ⟨u, h1, h2⟩
    exact ⟨u, ((reach_old hE ha).2 h1).front (by rw [E2_n]; simp), by rw [G2_lt (reach_lt hE ha h1)]; exact h2⟩
theorem own_has {E : Nat → List Nat} {n a : Nat} {G : Nat → List ByteArray} {p : ByteArray} (cov : ByteArray → Bool) (h : cov p = true) : ∃ u, Reach (E2 E n a) (n + 1) u ∧ (G2 G n p u).any cov = true := ⟨n + 1, .refl, by rw [G2_n1]; simp [h]⟩

/-- the row of fresh bytes: k of them are set -/
def zrow (L k : Nat) : Array Value := (List.replicate k (Value.int .u8 122) ++ List.replicate (L + 1 - k) (Value.int .u8 0)).toArray
theorem zrow_zero (L : Nat) : zrow L 0 = Array.replicate (L + 1) (Value.int .u8 0) := by simp [zrow]
theorem zrow_get {L k : Nat} (h : k < L + 1) : (zrow L k)[k]? = some (.int .u8 0) := by
  simp [zrow, List.getElem?_append_right, List.getElem?_replicate]; omega
theorem zrow_set {L k : Nat} (h : k < L + 1) : (zrow L k).setIfInBounds k (.int .u8 122) = zrow L (k + 1) := by
  simp only [zrow, List.setIfInBounds_toArray]
  congr 1
  rw [List.set_append_right _ _ (by simp), List.length_replicate, Nat.sub_self, show L + 1 - k = (L + 1 - (k + 1)) + 1 by omega, List.replicate_succ, List.set_cons_zero, List.replicate_succ', List.append_assoc]
  rfl
theorem zrow_all (L : Nat) : zrow L (L + 1) = ((List.replicate (L + 1) (122 : UInt8)).map (fun b => Value.int .u8 (b.toNat : Int))).toArray := by simp [zrow]

theorem conv_of (W : World) (g : Nat) (l : List UInt8) (hg : W.heap[g]? = some (.cells (l.map (fun b => Value.int .u8 (b.toNat : Int))).toArray 5 (0, 0))) (hl : l.length ≤ 4294967296) :
    (convert 45 9 (.slice (some ⟨g, 0, none⟩) l.length l.length)).run Tryf.prog W = .ok (.string ⟨l.toArray⟩) W :=
  run_convert_bytes_back (P := Tryf.prog) W 45 9 5 ⟨g, 0, none⟩ l.length l Tryf.underlying45 Tryf.underlying5 Tryf.underlying9 (fun j hj => by
    rw [addp, Nat.zero_add]
    exact rowc hg j (by simp [hj]))

theorem zrow_first (L : Nat) : (zrow L (L + 1))[0]? = some (.int .u8 122) := by simp [zrow]
theorem yrow_eq (L : Nat) : (zrow L (L + 1)).setIfInBounds 0 (.int .u8 121) = ((121 :: List.replicate L (122 : UInt8)).map (fun b => Value.int .u8 (b.toNat : Int))).toArray := by
  rw [zrow_all]
  simp only [List.setIfInBounds_toArray]
  congr 1
theorem conv_child (W : World) (L : Nat) (hL : L ≤ 1048576) : (convert 45 9 (.slice (some ⟨W.heap.size, 0, none⟩) (L + 1) (L + 1))).run Tryf.prog (W.alloc (.cells (zrow L (L + 1)) 5)) = .ok (.string (childK L)) (W.alloc (.cells (zrow L (L + 1)) 5)) := by
  have h := conv_of (W.alloc (.cells (zrow L (L + 1)) 5)) W.heap.size (List.replicate (L + 1) 122) (by rw [← zrow_all]; exact heap_new _ _) (by simp; omega)
  rw [List.length_replicate] at h
  exact h
theorem conv_own (W : World) (L : Nat) (hL : L ≤ 1048576) : (convert 45 9 (.slice (some ⟨W.heap.size, 0, none⟩) (L + 1) (L + 1))).run Tryf.prog (W.alloc (.cells ((zrow L (L + 1)).setIfInBounds 0 (.int .u8 121)) 5)) = .ok (.string (ownK L)) (W.alloc (.cells ((zrow L (L + 1)).setIfInBounds 0 (.int .u8 121)) 5)) := by
  have h := conv_of (W.alloc (.cells ((zrow L (L + 1)).setIfInBounds 0 (.int .u8 121)) 5)) W.heap.size (121 :: List.replicate L 122) (by rw [← yrow_eq]; exact heap_new _ _) (by simp; omega)
  rw [List.length_cons, List.length_replicate] at h
  exact h

/-- two cells behind a copy, set -/
theorem grow2 {w : World} {b n : Nat} {e : TypeId} {vs : List Value} {z : Value} (hn : vs.length = n) (h : w.heap[b]? = some (.cells (vs ++ List.replicate 2 z).toArray e (0, 0))) :
    w.cell? ⟨b, n, none⟩ = some z ∧ w.cell? ⟨b, n + 1, none⟩ = some z ∧ w.frozen? ⟨b, n, none⟩ = false ∧ w.frozen? ⟨b, n + 1, none⟩ = false := by
  subst hn
  refine ⟨rowc h _ ?_, rowc h _ ?_, rowf h _, rowf h _⟩
  · simp
  · simp [List.getElem?_append_right]
theorem set_row {w : World} {b i : Nat} {e : TypeId} {cs : Array Value} {v : Value} (h : w.heap[b]? = some (.cells cs e (0, 0))) : (w.setCell ⟨b, i, none⟩ v).heap[b]? = some (.cells (cs.setIfInBounds i v) e (0, 0)) := by
  rw [setCell_eq_setRow w b i _ e (0, 0) _ h, setRow_heap w b _ _ e _ h]
theorem set_two {n : Nat} {vs : List Value} {z x y : Value} (hn : vs.length = n) : ((vs ++ List.replicate 2 z).toArray.setIfInBounds n x).setIfInBounds (n + 1) y = (vs ++ [x, y]).toArray := by
  subst hn
  simp only [List.setIfInBounds_toArray]
  congr 1
  rw [List.set_append_right _ _ (Nat.le_refl _), Nat.sub_self, List.set_append_right _ _ (by omega)]
  simp [List.replicate]
theorem set_second {n : Nat} {vs : List Value} {z y : Value} (hn : vs.length = n) : (vs ++ List.replicate 2 z).toArray.setIfInBounds (n + 1) y = (vs ++ [z, y]).toArray := by
  subst hn
  simp only [List.setIfInBounds_toArray]
  congr 1
  rw [List.set_append_right _ _ (by omega)]
  simp [List.replicate]

/-- the cells of the outer slice, as a list -/
theorem Rws.list {w : World} {a : Option Addr} {n c : Nat} {X : Nat → List Value} (h : Rws w a n X) (h1 : n ≤ c) (h2 : c ≤ maxLen) : ∃ V : Nat → Value, Row w (.slice a n c) ((List.range n).map V) ∧ ∀ i, i < n → Row w (V i) (X i) := by
  obtain ⟨V, hV⟩ := Go.Deep.choose_lt (α := Value) (n := n) (p := fun i v => (∃ b o, a = some ⟨b, o, none⟩ ∧ w.cell? ⟨b, o + i, none⟩ = some v) ∧ Row w v (X i)) (fun i hi => by
    obtain ⟨b, o, v, e1, e2, e3⟩ := h i hi
    exact ⟨v, ⟨b, o, e1, e2⟩, e3⟩)
  refine ⟨V, ⟨a, c, by simp, by simpa using h1, h2, fun i hi => ?_⟩, fun i hi => (hV i hi).2⟩
  have hi' : i < n := by simpa using hi
  obtain ⟨b, o, e1, e2⟩ := (hV i hi').1
  exact ⟨b, o, e1, by rw [e2]; simp [List.getD, hi']⟩
theorem Sl.list {w : World} {a : Option Addr} {n c : Nat} {K : Nat → ByteArray} (h : Sl w a n (fun i => .string (K i))) (h1 : n ≤ c) (h2 : c ≤ maxLen) : Row w (.slice a n c) ((List.range n).map (fun i => .string (K i))) := by
  refine ⟨a, c, by simp, by simpa using h1, h2, fun i hi => ?_⟩
  have hi' : i < n := by simpa using hi
  obtain ⟨b, o, e1, e2⟩ := h i hi'
  exact ⟨b, o, e1, by rw [e2]; simp [List.getD, hi']⟩

def EZ (Z : Nat → List Int) (j : Nat) : List Nat := (Z j).map Int.toNat
theorem nats_of {Z : List Int} (h : ∀ x ∈ Z, 0 ≤ x) : Z.map (Value.int .i64) = nats (Z.map Int.toNat) := by
  rw [nats, List.map_map]
  refine List.map_congr_left fun x hx => ?_
  have := h x hx
  show Value.int .i64 x = Value.int .i64 ((x.toNat : Nat) : Int)
  rw [Int.toNat_of_nonneg this]
theorem Rws.nats {w : World} {a : Option Addr} {n : Nat} {Z : Nat → List Int} (h : Rws w a n (fun i => (Z i).map (Value.int .i64))) (hZ : ∀ i, i < n → ∀ x ∈ Z i, 0 ≤ x ∧ x < (n : Int)) : Rws w a n (fun i => Qxb6608620aFmt.nats (EZ Z i)) := fun i hi => by
  obtain ⟨b, o, v, e1, e2, e3⟩ := h i hi
  refine ⟨b, o, v, e1, e2, ?_⟩
  have e := nats_of (fun x hx => (hZ i hi x hx).1)
  show Row w v (Qxb6608620aFmt.nats ((Z i).map Int.toNat))
  rw [← e]
  exact e3
theorem EZ_lt {Z : Nat → List Int} {n : Nat} (hZ : ∀ i, i < n → ∀ x ∈ Z i, 0 ≤ x ∧ x < (n : Int)) : ∀ i, i < n → ∀ v ∈ EZ Z i, v < n := fun i hi v hv => by
  obtain ⟨x, hx, rfl⟩ := List.mem_map.1 hv
  have := hZ i hi x hx
  omega
theorem len_EZ (Z : Nat → List Int) (i : Nat) : (EZ Z i).length = (Z i).length := by simp [EZ]

theorem one_row {W : World} {g : Nat} {x : Value} {e : TypeId} (h : W.heap[g]? = some (.cells #[x] e (0, 0))) : Row W (.slice (some ⟨g, 0, none⟩) 1 1) [x] := by
  refine ⟨some ⟨g, 0, none⟩, 1, rfl, Nat.le_refl _, by unfold maxLen; omega, fun i hi => ⟨g, 0, rfl, ?_⟩⟩
  have : i = 0 := by simp at hi; exact hi
  subst this
  exact rowc h 0 rfl
theorem nil_row (W : World) : Row W (.slice none 0 0) [] := ⟨none, 0, rfl, Nat.le_refl _, Nat.zero_le _, fun i hi => absurd hi (Nat.not_lt_zero _)⟩
theorem rws2 {W : World} {b n : Nat} {e : TypeId} {V : Nat → Value} {s1 s2 : Value} {Y : Nat → List Value} (hR : W.heap[b]? = some (.cells ((List.range n).map V ++ [s1, s2]).toArray e (0, 0)))
    (h : ∀ j, j < n → Row W (V j) (Y j)) (h1 : Row W s1 (Y n)) (h2 : Row W s2 (Y (n + 1))) : Rws W (some ⟨b, 0, none⟩) (n + 2) Y := fun i hi => by
  by_cases e1 : i < n
  · exact ⟨b, 0, V i, rfl, by rw [Nat.zero_add]; exact rowc hR i (by simp [List.getElem?_append_left, e1]), h i e1⟩
  · by_cases e2 : i = n
    · subst e2
      exact ⟨b, 0, s1, rfl, by rw [Nat.zero_add]; exact rowc hR i (by simp), h1⟩
    · have e3 : i = n + 1 := by omega
      subst e3
      exact ⟨b, 0, s2, rfl, by rw [Nat.zero_add]; exact rowc hR _ (by simp [List.getElem?_append_right]), h2⟩
theorem sl2 {W : World} {b n L : Nat} {e : TypeId} {K : Nat → ByteArray} (hR : W.heap[b]? = some (.cells ((List.range n).map (fun i => Value.string (K i)) ++ [Value.string (childK L), Value.string (ownK L)]).toArray e (0, 0))) :
    Sl W (some ⟨b, 0, none⟩) (n + 2) (fun i => .string (K2 K n L i)) := fun i hi => by
  by_cases e1 : i < n
  · exact ⟨b, 0, rfl, by rw [Nat.zero_add]; exact rowc hR i (by simp [List.getElem?_append_left, e1, K2_lt e1])⟩
  · by_cases e2 : i = n
    · subst e2
      exact ⟨b, 0, rfl, by rw [Nat.zero_add]; exact rowc hR i (by simp [K2_n])⟩
    · have e3 : i = n + 1 := by omega
      subst e3
      exact ⟨b, 0, rfl, by rw [Nat.zero_add]; exact rowc hR _ (by simp [List.getElem?_append_right, K2_n1])⟩

theorem grant_of_perm {s : ByteArray} {q : Tri} (h : permOf s = some q) : grantOf s = some q ∧ isS q.1 = false ∧ isS q.2.1 = false := by
  unfold permOf at h
  cases hg : segs s with
  | none => rw [hg] at h; cases h
  | some y =>
    obtain ⟨r, a, c, b⟩ := y
    rw [hg] at h
    simp only [] at h
    split at h
    · rename_i hh
      simp only [Option.some.injEq] at h
      subst h
      simp only [Bool.and_eq_true] at hh
      obtain ⟨⟨n1, n2⟩, n3⟩ := hh
      have s1 : isS r = false := by
        cases e : isS r
        · rfl
        · rw [star_of e, isNm_star] at n1; cases n1
      have s2 : isS a = false := by
        cases e : isS a
        · rfl
        · rw [star_of e, isNm_star] at n2; cases n2
      refine ⟨?_, s1, s2⟩
      have hs : isS s = false := by
        cases e : isS s
        · rfl
        · rw [star_of e] at hg
          have : segs star = none := by decide
          rw [this] at hg
          cases hg
      simp [grantOf, hs, hg, s1, s2, n1, n2, n3]
    · cases h
theorem perm_of_grant {s : ByteArray} {q : Tri} (h : grantOf s = some q) (h1 : isS q.1 = false) (h2 : isS q.2.1 = false) : permOf s = some q := by
  unfold grantOf at h
  split at h
  · simp only [Option.some.injEq] at h
    subst h
    rw [isS_star] at h1
    cases h1
  · cases hg : segs s with
    | none => rw [hg] at h; cases h
    | some y =>
      obtain ⟨r, a, c, b⟩ := y
      rw [hg] at h
      simp only [] at h
      split at h
      · rename_i hh
        simp only [Option.some.injEq] at h
        subst h
        simp only [] at h1 h2
        simp [h1, h2] at hh
        simp [permOf, hg, hh]
      · cases h
theorem covG_self (q : Tri) : covG q q = true := by simp [covG, eqS_self]
end Go.Proofs.Qxb6608620aFmt
