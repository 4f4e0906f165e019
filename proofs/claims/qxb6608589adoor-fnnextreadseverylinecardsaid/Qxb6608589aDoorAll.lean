import Derived.Test.Qxb6608589aDoorPlain
namespace Go.Proofs.Qxb6608589aDoor
open Go.RowKit Go.Joins
set_option linter.unusedVariables false

theorem Tryd.info25 : (Tryd.prog.info? 25).map (fun i => (i.zero, i.size, i.bytes)) = some (some (.slice none 0 0), 1, 24) := by kernel_rfl

/-- zzCloneBytes at whatever slice -/
theorem clone_any (p : Option Addr) (n c : Nat) (xs : List Int) (w : World) (hx : xs.length = n) (hn : n ≤ 1099511627776) (hp : p = none → n = 0 ∧ c = 0) (h : Lib.BytesIn w p n xs) :
    Calls Tryd.prog 8 #[.slice p n c] w fun e w' => ∃ dp, e = .returned (.slice dp n n) ∧ (dp = none ↔ p = none) ∧ Below w.heap.size w w' ∧ w'.heap.size ≤ w.heap.size + 1 ∧
      (dp ≠ none → dp = some ⟨w.heap.size, 0, none⟩ ∧ w'.heap[w.heap.size]? = some (.cells (cellsB xs) 5 (0, 0))) := by
  cases p with
  | none =>
    obtain ⟨rfl, rfl⟩ := hp rfl
    refine (clone_nil w).mono ?_
    rintro e w' ⟨rfl, rfl⟩
    exact ⟨none, rfl, Iff.rfl, Below.refl _ _, by omega, fun h => absurd rfl h⟩
  | some a =>
    rcases Nat.eq_zero_or_pos n with h0 | h0
    · subst h0
      obtain rfl : xs = [] := List.eq_nil_of_length_eq_zero hx
      refine (clone_empty a c w).mono ?_
      rintro e w' ⟨rfl, rfl⟩
      exact ⟨_, rfl, by simp, (Below.refl _ _).alloc (Nat.le_refl _) _, by simp, fun _ => ⟨rfl, heap_alloc_new w _⟩⟩
    · obtain ⟨b, o, hp, hc⟩ := h.at h0
      injection hp with hp
      subst hp
      refine (clone_some b o n c xs w hx hn hc).mono ?_
      rintro e w' ⟨rfl, rfl⟩
      exact ⟨_, rfl, by simp, (Below.refl _ _).alloc (Nat.le_refl _) _, by simp, fun _ => ⟨rfl, heap_alloc_new w _⟩⟩

/-- the two sentinels lie there -/
structure Sent (w : World) (aE aF : Addr) : Prop where
  hE : w.cell? ⟨2, 0, none⟩ = some (.iface 66 (.pointer (some aE)))
  hF : w.cell? ⟨1, 0, none⟩ = some (.iface 66 (.pointer (some aF)))
  hne : aE ≠ aF
  hEb : ∃ c t, w.heap[aE.block]? = some (.cells c t (0, 0))
  hFb : ∃ c t, w.heap[aF.block]? = some (.cells c t (0, 0))
  hsz : 5 ≤ w.heap.size

theorem Sent.below {w w' : World} {aE aF : Addr} (h : Sent w aE aF) (hb : Below w.heap.size w w') : Sent w' aE aF := by
  obtain ⟨c, t, h1⟩ := h.hEb
  obtain ⟨c', t', h2⟩ := h.hFb
  have hs := h.hsz
  refine ⟨(hb.cell (by show 2 < _; omega)).trans h.hE, (hb.cell (by show 1 < _; omega)).trans h.hF, h.hne, ⟨c, t, ?_⟩, ⟨c', t', ?_⟩, Nat.le_trans h.hsz hb.size⟩
  · rw [hb.block _ (Array.getElem?_eq_some_iff.1 h1).1]; exact h1
  · rw [hb.block _ (Array.getElem?_eq_some_iff.1 h2).1]; exact h2

/-- the rows that the lines lie in; none of them is in F -/
def Rows1 (w : World) (B : Nat) (F : Nat → Prop) (vs : List Value) (Ls : List (List Int)) : Prop :=
  vs.length = Ls.length ∧ ∀ (i : Nat) (L : List Int), Ls[i]? = some L → ∃ g, vs[i]? = some (Value.slice (some ⟨g, 0, none⟩) L.length L.length) ∧ B ≤ g ∧ ¬ F g ∧ w.heap[g]? = some (.cells (cellsB L) 5 (0, 0))

theorem Rows1.step {w w' : World} {B : Nat} {F F' : Nat → Prop} {vs : List Value} {Ls : List (List Int)} (h : Rows1 w B F vs Ls)
    (hk : ∀ g, g < w.heap.size → ¬ F g → w'.heap[g]? = w.heap[g]?) (hF : ∀ g, g < w.heap.size → F' g → F g) : Rows1 w' B F' vs Ls := by
  refine ⟨h.1, fun i L hL => ?_⟩
  obtain ⟨g, h1, h2, h3, h4⟩ := h.2 i L hL
  have hlt := (Array.getElem?_eq_some_iff.1 h4).1
  exact ⟨g, h1, h2, fun hf => h3 (hF g hlt hf), (hk g hlt h3).trans h4⟩

theorem Rows1.snoc {w : World} {B : Nat} {F : Nat → Prop} {vs : List Value} {Ls : List (List Int)} (h : Rows1 w B F vs Ls) {g : Nat} {L : List Int} (h2 : B ≤ g) (h3 : ¬ F g) (h4 : w.heap[g]? = some (.cells (cellsB L) 5 (0, 0))) :
    Rows1 w B F (vs ++ [Value.slice (some ⟨g, 0, none⟩) L.length L.length]) (Ls ++ [L]) := by
  refine ⟨by simp [h.1], fun i M hM => ?_⟩
  by_cases hi : i < Ls.length
  · rw [List.getElem?_append_left hi] at hM
    obtain ⟨g', k1, k2⟩ := h.2 i M hM
    exact ⟨g', by rw [List.getElem?_append_left (by rw [h.1]; exact hi)]; exact k1, k2⟩
  · rw [List.getElem?_append_right (by omega)] at hM
    obtain ⟨rfl, rfl⟩ : i = Ls.length ∧ L = M := by
      have hlt := (List.getElem?_eq_some_iff.1 hM).1
      simp at hlt
      have e : i - Ls.length = 0 := by omega
      rw [e] at hM
      exact ⟨by omega, by simpa using hM⟩
    exact ⟨g, by rw [List.getElem?_append_right (by rw [h.1]; exact Nat.le_refl _), h.1]; simp, h2, h3, h4⟩

/-- what zzReadAll's loop holds at its head -/
structure LpA (w : World) (bl br bs bb bd S : Nat) (dp : Option Addr) (data : List Int) (aE aF : Addr) (k : Nat) (lines : Value) (wx : World) : Prop where
  ex : ∃ (P : List Int) (lv : Value) (m : Nat) (xs vs : List Value) (Ls : List (List Int)),
    Byt P ∧ Ls.length + P.length ≤ data.length ∧ (∀ Ms, IsLines Ms P → IsLines (Ls ++ Ms) data) ∧ Ls.length = k ∧
    Env wx br bs bb bd S dp data 66 aE aF ∧ Rd wx br bs bb S dp data P .nilIface ∧ wx.heap[bl]? = some (.cells (hfl br k lv) 49 (0, 0)) ∧ wx.ownsRow (bl + 1) 5 1 lv m xs ∧
    wx.ownsRow (bl + 1) 25 1 lines k vs ∧ (∀ g, lines.ownBlock = some g → lv.ownBlock ≠ some g) ∧
    Rows1 wx (bl + 1) (fun g => lv.ownBlock = some g ∨ lines.ownBlock = some g) vs Ls ∧ Below w.heap.size w wx

/-- what next leaves -/
def NextPost (w : World) (bl br bs bb bd S : Nat) (dp : Option Addr) (data P : List Int) (aE aF : Addr) (cnt : Nat) (lv : Value) (e : Ending) (w' : World) : Prop :=
  ∃ (lv' : Value) (m : Nat) (xs : List Value), w'.ownsRow (bl + 1) 5 1 lv' m xs ∧
      (lv'.ownBlock = lv.ownBlock ∨ ∃ g, lv'.ownBlock = some g ∧ w.heap.size ≤ g) ∧ Touch ([bl, br, bs, bb] ++ lv.ownBlock.toList) w w' ∧
      ((P = [] ∧ e = .returned (.tuple #[.slice none 0 0, .iface 66 (.pointer (some aE))]) ∧ Rd w' br bs bb S dp data [] .nilIface ∧ w'.heap[bl]? = some (.cells (hfl br cnt lv') 49 (0, 0))) ∨
        ∃ (X P' : List Int) (a : Addr) (c : Nat), P = X ++ P' ∧ Piece X P' ∧ e = .returned (.tuple #[.slice (some a) (trimL X).length c, .nilIface]) ∧ Rd w' br bs bb S dp data P' .nilIface ∧
          w'.heap[bl]? = some (.cells (hfl br (cnt + 1) lv') 49 (0, 0)) ∧ Lib.BytesIn w' (some a) (trimL X).length (trimL X))

theorem zznext_any (bl br bs bb bd S : Nat) (dp : Option Addr) (data P : List Int) (aE aF : Addr) (cnt : Nat) (lv : Value) (m0 : Nat) (xs0 : List Value) (w : World)
    (he : Env w br bs bb bd S dp data 66 aE aF) (hbl : bb < bl) (hP : Byt P) (hrd : Rd w br bs bb S dp data P .nilIface) (hcnt : cnt ≤ 1099511627776)
    (hh : w.heap[bl]? = some (.cells (hfl br cnt lv) 49 (0, 0))) (hown : w.ownsRow (bl + 1) 5 1 lv m0 xs0) :
    Calls Tryd.prog 11 #[.pointer (some ⟨bl, 0, none⟩)] w (NextPost w bl br bs bb bd S dp data P aE aF cnt lv) := by
  have H := hide (next_any bl br bs bb bd S dp data P aE aF cnt lv m0 xs0 w he hbl hP hrd hcnt hh hown)
  clear he hP hrd hh hown
  go_enter Tryd.func11, Tryd.ntmps11
  go_wp2_with fail
  refine (unhide H).mono ?_
  rintro e w' ⟨lv', m, xs, h1, h2, h3, h4⟩
  rcases h4 with ⟨h5, rfl, h6⟩ | ⟨X, P', a, c, h5, h6, rfl, h7⟩
  · have HH := hide (show _ ∧ _ ∧ _ ∧ _ ∧ _ from ⟨h1, h2, h3, h5, h6⟩)
    clear h1 h2 h3 h5 h6
    go_wp2
    go_ret2
    obtain ⟨h1, h2, h3, h5, h6⟩ := HH.out
    exact ⟨lv', m, xs, h1, h2, h3, Or.inl ⟨h5, rfl, h6⟩⟩
  · have HH := hide (show _ ∧ _ ∧ _ ∧ _ ∧ _ ∧ _ from ⟨h1, h2, h3, h5, h6, h7⟩)
    clear h1 h2 h3 h5 h6 h7
    go_wp2
    go_ret2
    obtain ⟨h1, h2, h3, h5, h6, h7⟩ := HH.out
    exact ⟨lv', m, xs, h1, h2, h3, Or.inr ⟨X, P', a, c, h5, h6, rfl, h7⟩⟩

end Go.Proofs.Qxb6608589aDoor
