import Derived.Test.Qxb6608620aFmtStr
import Derived.Test.Qxb6608620aFmtGraph
import Derived.Maps.OwnSet
import Derived.Maps.OwnOps
import Derived.Maps.AppendAt
import Derived.Laws.CopyOwn
import Derived.StringKeys
namespace Go.Proofs.Qxb6608620aFmt
open Go.RowKit Go.Joins Go.Kit Go.Maps Go.WideMaps
set_option linter.unusedVariables false
set_option linter.unusedSimpArgs false

theorem heap_new (w : World) (o : Obj) : (w.alloc o).heap[w.heap.size]? = some o := heap_alloc_new w o
theorem heap_old {w : World} {k : Nat} {o ob : Obj} (h : w.heap[k]? = some o) : (w.alloc ob).heap[k]? = some o :=
  (Below.heap_alloc w ob k (Array.getElem?_eq_some_iff.1 h).1).trans h
theorem rowc {wx : World} {b : Nat} {cs : Array Value} {t : TypeId} (h : wx.heap[b]? = some (.cells cs t (0, 0))) (i : Nat) {v : Value} (hv : cs[i]? = some v) : wx.cell? ⟨b, i, none⟩ = some v := by
  rw [cell_of_row wx b i cs t (0, 0) h, hv]
theorem rowf {wx : World} {b : Nat} {cs : Array Value} {t : TypeId} (h : wx.heap[b]? = some (.cells cs t (0, 0))) (i : Nat) : wx.frozen? ⟨b, i, none⟩ = false := by
  simp [World.frozen?, h]
theorem blk {B : Nat} {w w' : World} (hb : Below B w w') {k : Nat} {o : Obj} (h : w.heap[k]? = some o) (hk : k < B) : w'.heap[k]? = some o := (hb.block k hk).trans h
theorem lt_of {w : World} {k : Nat} {o : Obj} (h : w.heap[k]? = some o) : k < w.heap.size := (Array.getElem?_eq_some_iff.1 h).1

/-- a slice's n cells -/
def Sl (w : World) (a : Option Addr) (n : Nat) (f : Nat → Value) : Prop := ∀ i, i < n → ∃ b o, a = some ⟨b, o, none⟩ ∧ w.cell? ⟨b, o + i, none⟩ = some (f i)
theorem Sl.later {w w' : World} {a : Option Addr} {n : Nat} {f : Nat → Value} (h : Sl w a n f) {B : Nat} (hb : Below B w w') (hB : w.heap.size ≤ B) : Sl w' a n f := fun i hi => by
  obtain ⟨b, o, h1, h2⟩ := h i hi
  refine ⟨b, o, h1, ?_⟩
  have h3 := World.block_lt_of_cell? w _ h2
  exact (World.cell?_of_block (hb.block b (Nat.lt_of_lt_of_le h3 hB))).trans h2

/-- v is a slice that holds vs -/
def Row (w : World) (v : Value) (vs : List Value) : Prop := ∃ a c, v = .slice a vs.length c ∧ vs.length ≤ c ∧ c ≤ maxLen ∧ Sl w a vs.length (fun i => vs.getD i undef)
theorem Row.later {w w' : World} {v : Value} {vs : List Value} (h : Row w v vs) {B : Nat} (hb : Below B w w') (hB : w.heap.size ≤ B) : Row w' v vs := by
  obtain ⟨a, c, h1, h2, h3, h4⟩ := h
  exact ⟨a, c, h1, h2, h3, h4.later hb hB⟩
/-- n rows -/
def Rws (w : World) (a : Option Addr) (n : Nat) (X : Nat → List Value) : Prop := ∀ i, i < n → ∃ b o v, a = some ⟨b, o, none⟩ ∧ w.cell? ⟨b, o + i, none⟩ = some v ∧ Row w v (X i)
theorem Rws.later {w w' : World} {a : Option Addr} {n : Nat} {X : Nat → List Value} (h : Rws w a n X) {B : Nat} (hb : Below B w w') (hB : w.heap.size ≤ B) : Rws w' a n X := fun i hi => by
  obtain ⟨b, o, v, h1, h2, h3⟩ := h i hi
  have h4 := World.block_lt_of_cell? w _ h2
  exact ⟨b, o, v, h1, (World.cell?_of_block (hb.block b (Nat.lt_of_lt_of_le h4 hB))).trans h2, h3.later hb hB⟩

abbrev strs (xs : List ByteArray) : List Value := xs.map Value.string
abbrev nats (xs : List Nat) : List Value := xs.map (fun (x : Nat) => Value.int .i64 (x : Int))

theorem own_later {k : TypeId} {R : Value → Option (DataW Unit × List MemPlace)} {w w' : World} {b n B : Nat} {D : DataW Unit} (h : w.ownsMap Tryf.prog k R b n D) (hb : Below B w w') (hk : b < B) : w'.ownsMap Tryf.prog k R b n D := by
  obtain ⟨es, clock, h1, h2⟩ := h
  exact ⟨es, clock, (hb.block b hk).trans h1, h2⟩

theorem law9 : Keyed Tryf.prog 9 := string_keyed Tryf.underlying9
theorem law3 : Keyed Tryf.prog 3 := int_keyed Tryf.underlying3
theorem zero4 (w : World) : (zeroValue 4).run Tryf.prog w = .ok (.bool false) w := by kernel_rfl
theorem zero3 (w : World) : (zeroValue 3).run Tryf.prog w = .ok (.int .i64 0) w := by kernel_rfl
theorem plainElem_bool_inv {e : TypeId} (he : Tryf.prog.underlying e = some .bool) {v : Value} {c : Bool} {ps : List MemPlace} (h : plainElem (H := Unit) Tryf.prog e v = some (.lit (.bool c), ps)) : v = .bool c := by
  unfold plainElem at h
  rw [he] at h
  cases v <;> simp at h
  rw [h.1]

/-- a map[int]bool: block b holds just the places S, each with true -/
def SeenI (w : World) (b : Nat) (S : List Nat) (m : Nat) : Prop := ∃ D : DataW Unit, w.ownsMap Tryf.prog 3 (plainElem Tryf.prog 4) b m D ∧ ∀ x : Nat, D.atKey (.int .i64 (x : Int)) (.lit (.bool false)) = .lit (.bool (S.contains x))
theorem wf64 {x : Nat} (h : x ≤ 4611686018427387904) : (Lit.int .i64 (x : Int)).wf = true := WalkArith.wf_i64 (by omega)
theorem SeenI.look {w : World} {b : Nat} {S : List Nat} {m : Nat} (h : SeenI w b S m) {x : Nat} (hx : x ≤ 4611686018427387904) : (Instr.lookup 73 (.map (some b)) (.int .i64 (x : Int)) false).run Tryf.prog w = .ok (.bool (S.contains x)) w := by
  obtain ⟨D, h1, h2⟩ := h
  obtain ⟨v, ps, hrun, hv⟩ := h1.lookup law3 Tryf.underlying73 (zero4 _) (plainElem_bool Tryf.underlying4 false) (keyOf_int_mk Tryf.underlying3 (wf64 hx))
  rw [h2] at hv
  rw [plainElem_bool_inv Tryf.underlying4 hv] at hrun
  exact hrun
theorem int_ne {x y : Nat} (h : ¬ x = y) : Lit.int .i64 (x : Int) ≠ Lit.int .i64 (y : Int) := by
  intro e
  injection e with _ e
  apply h
  exact Int.ofNat.inj e
theorem SeenI.put {w : World} {b : Nat} {S : List Nat} {m : Nat} (h : SeenI w b S m) {x : Nat} (hx : x ≤ 4611686018427387904) (hm : m < 4611686018427387904) :
    ∃ w', (Instr.mapUpdate 73 (.map (some b)) (.int .i64 (x : Int)) (.bool true)).run Tryf.prog w = .ok () w' ∧ SeenI w' b (x :: S) (m + 1) ∧ w.grownBy w' (some b) := by
  obtain ⟨D, h1, h2⟩ := h
  obtain ⟨w', hrun, ho, hg⟩ := h1.update law3 Tryf.underlying73 (by unfold maxLen; omega) (keyOf_int_mk Tryf.underlying3 (wf64 hx)) (plainElem_bool Tryf.underlying4 true)
  refine ⟨w', hrun, ⟨_, ho, fun y => ?_⟩, hg⟩
  by_cases e : y = x
  · subst e
    rw [atKey_put_same (k := .int .i64 (y : Int)) h1.isMap trivial]
    simp
  · rw [atKey_put_other (int_ne e), h2]
    simp [e]
theorem SeenI.made (w : World) : SeenI (w.alloc (.map #[] 0)) w.heap.size [] 0 := ⟨_, World.ownsMap_made w _ _ _, fun x => rfl⟩

/-- do the two strings hold the same bytes? -/
def eqS (x y : ByteArray) : Bool := x.toList == y.toList
theorem eqS_iff {x y : ByteArray} : eqS x y = true ↔ x = y := by
  constructor
  · intro h
    have h1 : x.toList = y.toList := by simpa [eqS] using h
    rw [ByteArray.toList_eq, ByteArray.toList_eq] at h1
    obtain ⟨⟨x⟩⟩ := x
    obtain ⟨⟨y⟩⟩ := y
    simp at h1
    subst h1
    rfl
  · rintro rfl
    simp [eqS]
theorem eqS_self (x : ByteArray) : eqS x x = true := eqS_iff.2 rfl
theorem eqS_ne {x y : ByteArray} (h : ¬ x = y) : eqS x y = false := by
  cases e : eqS x y
  · rfl
  · exact absurd (eqS_iff.1 e) h

/-- a map[string]bool -/
def SeenS (w : World) (b : Nat) (S : List ByteArray) (m : Nat) : Prop := ∃ D : DataW Unit, w.ownsMap Tryf.prog 9 (plainElem Tryf.prog 4) b m D ∧ ∀ x : ByteArray, D.atKey (.string x.data.toList) (.lit (.bool false)) = .lit (.bool (S.any (fun y => eqS x y)))
theorem str_ne {x y : ByteArray} (h : ¬ x = y) : Lit.string x.data.toList ≠ Lit.string y.data.toList := by
  intro e
  injection e with e
  apply h
  obtain ⟨⟨x⟩⟩ := x
  obtain ⟨⟨y⟩⟩ := y
  simp at e
  rw [e]
theorem SeenS.look {w : World} {b : Nat} {S : List ByteArray} {m : Nat} (h : SeenS w b S m) {x : ByteArray} (hx : x.size ≤ 2097152) : (Instr.lookup 46 (.map (some b)) (.string x) false).run Tryf.prog w = .ok (.bool (S.any (fun y => eqS x y))) w := by
  obtain ⟨D, h1, h2⟩ := h
  obtain ⟨v, ps, hrun, hv⟩ := h1.lookup law9 Tryf.underlying46 (zero4 _) (plainElem_bool Tryf.underlying4 false) (keyOf_string_mk Tryf.underlying9 (show x.size ≤ maxLen by unfold maxLen; omega))
  rw [h2] at hv
  rw [plainElem_bool_inv Tryf.underlying4 hv] at hrun
  exact hrun
theorem SeenS.put {w : World} {b : Nat} {S : List ByteArray} {m : Nat} (h : SeenS w b S m) {x : ByteArray} (hx : x.size ≤ 2097152) (hm : m < 4611686018427387904) :
    ∃ w', (Instr.mapUpdate 46 (.map (some b)) (.string x) (.bool true)).run Tryf.prog w = .ok () w' ∧ SeenS w' b (x :: S) (m + 1) ∧ w.grownBy w' (some b) := by
  obtain ⟨D, h1, h2⟩ := h
  obtain ⟨w', hrun, ho, hg⟩ := h1.update law9 Tryf.underlying46 (by unfold maxLen; omega) (keyOf_string_mk Tryf.underlying9 (show x.size ≤ maxLen by unfold maxLen; omega)) (plainElem_bool Tryf.underlying4 true)
  refine ⟨w', hrun, ⟨_, ho, fun y => ?_⟩, hg⟩
  by_cases e : y = x
  · subst e
    rw [atKey_put_same (k := .string y.data.toList) h1.isMap trivial]
    simp [eqS_self]
  · rw [atKey_put_other (str_ne e), h2]
    simp [eqS_ne e]
theorem SeenS.made (w : World) : SeenS (w.alloc (.map #[] 0)) w.heap.size [] 0 := ⟨_, World.ownsMap_made w _ _ _, fun x => rfl⟩

/-- a map[string]int: the place of each of the first n keys -/
def Place (w : World) (b n : Nat) (K : Nat → ByteArray) : Prop := ∃ D : DataW Unit, w.ownsMap Tryf.prog 9 (plainElem Tryf.prog 3) b n D ∧
  (∀ i, i < n → Maps.has D (.string (K i).data.toList) = true ∧ ∀ z, D.atKey (.string (K i).data.toList) z = .lit (.int .i64 (i : Int))) ∧ ∀ s : ByteArray, (∀ i, i < n → s ≠ K i) → Maps.has D (.string s.data.toList) = false
theorem Place.later {w w' : World} {b n : Nat} {K : Nat → ByteArray} (h : Place w b n K) {B : Nat} (hb : Below B w w') (hB : b < B) : Place w' b n K := by
  obtain ⟨D, h1, h2⟩ := h
  exact ⟨D, own_later h1 hb hB, h2⟩
theorem Place.made (w : World) (K : Nat → ByteArray) : Place (w.alloc (.map #[] 0)) w.heap.size 0 K := ⟨_, World.ownsMap_made w _ _ _, (fun i hi => absurd hi (Nat.not_lt_zero _)), fun s _ => rfl⟩
theorem Place.put {w : World} {b n : Nat} {K : Nat → ByteArray} (h : Place w b n K) (hx : (K n).size ≤ 2097152) (hm : n < 4611686018427387904) (hK : ∀ i, i < n → K i ≠ K n) :
    ∃ w', (Instr.mapUpdate 49 (.map (some b)) (.string (K n)) (.int .i64 (n : Int))).run Tryf.prog w = .ok () w' ∧ Place w' b (n + 1) K ∧ w.grownBy w' (some b) := by
  obtain ⟨D, h1, h2, h3⟩ := h
  obtain ⟨w', hrun, ho, hg⟩ := h1.update law9 Tryf.underlying49 (by unfold maxLen; omega) (keyOf_string_mk Tryf.underlying9 (show (K n).size ≤ maxLen by unfold maxLen; omega)) (plainElem_int Tryf.underlying3 (wf64 (x := n) (by omega)))
  refine ⟨w', hrun, ⟨_, ho, fun i hi => ?_, fun s hs => ?_⟩, hg⟩
  · by_cases e : i = n
    · subst e
      exact ⟨has_put_same (k := .string (K i).data.toList) h1.isMap trivial _, fun z => atKey_put_same (k := .string (K i).data.toList) h1.isMap trivial _ _⟩
    · have hi' : i < n := by omega
      rw [has_put_other (str_ne (hK i hi'))]
      exact ⟨(h2 i hi').1, fun z => by rw [atKey_put_other (str_ne (hK i hi'))]; exact (h2 i hi').2 z⟩
  · rw [has_put_other (str_ne (hs n (by omega)))]
    exact h3 s (fun i hi => hs i (by omega))
theorem Place.look {w : World} {b n : Nat} {K : Nat → ByteArray} (h : Place w b n K) {i : Nat} (hi : i < n) (hx : (K i).size ≤ 2097152) :
    (Instr.lookup 49 (.map (some b)) (.string (K i)) true).run Tryf.prog w = .ok (.tuple #[.int .i64 (i : Int), .bool true]) w := by
  obtain ⟨D, h1, h2, h3⟩ := h
  obtain ⟨v, ps, hrun, hv⟩ := h1.look_ok law9 Tryf.underlying49 (zero3 _) (plainElem_int Tryf.underlying3 (wf64 (x := 0) (by omega))) (keyOf_string_mk Tryf.underlying9 (show (K i).size ≤ maxLen by unfold maxLen; omega))
  rw [(h2 i hi).2] at hv
  obtain ⟨c, rfl, hc, _⟩ := plainElem_int_inv Tryf.underlying3 hv
  have : c = (i : Int) := by
    have e := congrArg Prod.fst hc
    simp at e
    exact e.symm
  rw [this, (h2 i hi).1] at hrun
  exact hrun
theorem Place.miss {w : World} {b n : Nat} {K : Nat → ByteArray} (h : Place w b n K) {s : ByteArray} (hs : ∀ i, i < n → s ≠ K i) (hx : s.size ≤ 2097152) :
    ∃ c : Int, (Instr.lookup 49 (.map (some b)) (.string s) true).run Tryf.prog w = .ok (.tuple #[.int .i64 c, .bool false]) w := by
  obtain ⟨D, h1, h2, h3⟩ := h
  obtain ⟨v, ps, hrun, hv⟩ := h1.look_ok law9 Tryf.underlying49 (zero3 _) (plainElem_int Tryf.underlying3 (wf64 (x := 0) (by omega))) (keyOf_string_mk Tryf.underlying9 (show s.size ≤ maxLen by unfold maxLen; omega))
  obtain ⟨c, rfl, hc, _⟩ := plainElem_int_inv Tryf.underlying3 hv
  rw [h3 s hs] at hrun
  exact ⟨c, hrun⟩
end Go.Proofs.Qxb6608620aFmt
