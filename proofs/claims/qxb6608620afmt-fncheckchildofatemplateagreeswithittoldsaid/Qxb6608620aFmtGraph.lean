import Derived.Below
namespace Go.Proofs.Qxb6608620aFmt
set_option linter.unusedVariables false

/-- u is met from t along E: it bears whatever t bears and every edge hands on -/
def Reach (E : Nat → List Nat) (t u : Nat) : Prop := ∀ P : Nat → Prop, P t → (∀ x v, P x → v ∈ E x → P v) → P u
theorem Reach.refl {E : Nat → List Nat} {t : Nat} : Reach E t t := fun P h0 _ => h0
theorem Reach.step {E : Nat → List Nat} {t u v : Nat} (h : Reach E t u) (hv : v ∈ E u) : Reach E t v := fun P h0 hs => hs u v (h P h0 hs) hv

/-- the walk's state: S has been seen, st is to come; every edge leads below n -/
structure Dfs (E : Nat → List Nat) (cov : Nat → Bool) (t n : Nat) (S st : List Nat) : Prop where
  seen : ∀ u ∈ S, Reach E t u
  todo : ∀ u ∈ st, Reach E t u ∧ u < n
  root : t ∈ S ∨ t ∈ st
  shut : ∀ u ∈ S, ∀ v ∈ E u, v ∈ S ∨ v ∈ st
  nocov : ∀ u ∈ S, cov u = false

variable {E : Nat → List Nat} {cov : Nat → Bool} {t n : Nat}

theorem Dfs.start (ht : t < n) : Dfs E cov t n [] [t] where
  seen := by simp
  todo := by
    intro u hu
    have : u = t := by simpa using hu
    subst this
    exact ⟨.refl, ht⟩
  root := by simp
  shut := by simp
  nocov := by simp

theorem Dfs.skip {S st : List Nat} {u : Nat} (h : Dfs E cov t n S (st ++ [u])) (hu : u ∈ S) : Dfs E cov t n S st where
  seen := h.seen
  todo := fun x hx => h.todo x (by simp [hx])
  root := by
    rcases h.root with h1 | h1
    · exact .inl h1
    · simp at h1
      rcases h1 with h1 | rfl
      · exact .inr h1
      · exact .inl hu
  shut := by
    intro x hx v hv
    rcases h.shut x hx v hv with h1 | h1
    · exact .inl h1
    · simp at h1
      rcases h1 with h1 | rfl
      · exact .inr h1
      · exact .inl hu
  nocov := h.nocov

theorem Dfs.visit {S st : List Nat} {u : Nat} (h : Dfs E cov t n S (st ++ [u])) (hc : cov u = false) (hE : ∀ v ∈ E u, v < n) : Dfs E cov t n (u :: S) (st ++ (E u).reverse) where
  seen := by
    intro x hx
    rcases List.mem_cons.1 hx with rfl | hx
    · exact (h.todo x (by simp)).1
    · exact h.seen x hx
  todo := by
    intro x hx
    rcases List.mem_append.1 hx with hx | hx
    · exact h.todo x (by simp [hx])
    · have hx' : x ∈ E u := by simpa using hx
      exact ⟨.step (h.todo u (by simp)).1 hx', hE x hx'⟩
  root := by
    rcases h.root with h1 | h1
    · exact .inl (by simp [h1])
    · simp at h1
      rcases h1 with h1 | rfl
      · exact .inr (by simp [h1])
      · exact .inl (by simp)
  shut := by
    intro x hx v hv
    rcases List.mem_cons.1 hx with rfl | hx
    · exact .inr (by simp [hv])
    · rcases h.shut x hx v hv with h1 | h1
      · exact .inl (by simp [h1])
      · simp at h1
        rcases h1 with h1 | rfl
        · exact .inr (by simp [h1])
        · exact .inl (by simp)
  nocov := by
    intro x hx
    rcases List.mem_cons.1 hx with rfl | hx
    · exact hc
    · exact h.nocov x hx

theorem Dfs.done {S : List Nat} (h : Dfs E cov t n S []) {u : Nat} (hu : Reach E t u) : cov u = false := by
  have : u ∈ S := hu (fun x => x ∈ S)
    (by rcases h.root with h1 | h1
        · exact h1
        · cases h1)
    (fun x v ih hv => by
      rcases h.shut x ih v hv with h1 | h1
      · exact h1
      · cases h1)
  exact h.nocov u this

theorem countP_le_of {α : Type} {p q : α → Bool} : ∀ (l : List α), (∀ x, q x = true → p x = true) → l.countP q ≤ l.countP p
  | [], _ => Nat.le_refl _
  | x :: l, h => by
    have ih := countP_le_of l h
    rw [List.countP_cons, List.countP_cons]
    by_cases hq : q x = true
    · simp [hq, h x hq, ih]
    · simp [hq]; omega
theorem countP_lt_of {α : Type} {p q : α → Bool} {u : α} : ∀ (l : List α), (∀ x, q x = true → p x = true) → u ∈ l → p u = true → q u = false → l.countP q < l.countP p
  | x :: l, h, hu, h1, h2 => by
    rw [List.countP_cons, List.countP_cons]
    rcases List.mem_cons.1 hu with rfl | hu
    · have := countP_le_of l h
      simp [h1, h2]; omega
    · have := countP_lt_of l h hu h1 h2
      by_cases hq : q x = true
      · simp [hq, h x hq, this]
      · simp [hq]; omega

/-- how many places have not been seen -/
def unseen (n : Nat) (S : List Nat) : Nat := (List.range n).countP (fun x => !S.contains x)
theorem unseen_lt {n u : Nat} {S : List Nat} (hu : u < n) (hS : u ∉ S) : unseen n (u :: S) < unseen n S := by
  refine countP_lt_of (u := u) _ ?_ (by simpa using hu) (by simpa using hS) (by simp)
  intro x hx
  simp at hx ⊢
  exact hx.2
theorem unseen_nil (n : Nat) : unseen n [] ≤ n := by
  unfold unseen
  simp

theorem Reach.mono {E E' : Nat → List Nat} {t u : Nat} (h : Reach E t u) (P : Nat → Prop) (hP : P t) (hE : ∀ x, P x → (∀ v ∈ E x, v ∈ E' x ∧ P v)) : Reach E' t u ∧ P u :=
  h (fun x => Reach E' t x ∧ P x) ⟨.refl, hP⟩ (fun x v ih hv => ⟨.step ih.1 (hE x ih.2 v hv).1, (hE x ih.2 v hv).2⟩)

/-- from a place with one edge -/
theorem Reach.one {c a u : Nat} (hc : E c = [a]) (h : Reach E c u) : u = c ∨ Reach E a u :=
  h (fun x => x = c ∨ Reach E a x) (.inl rfl) (fun x v ih hv => by
    rcases ih with rfl | ih
    · rw [hc] at hv
      rw [List.mem_singleton.1 hv]
      exact .inr .refl
    · exact .inr (.step ih hv))
theorem Reach.front {c a u : Nat} (hc : a ∈ E c) (h : Reach E a u) : Reach E c u :=
  h (fun x => Reach E c x) (.step .refl hc) (fun x v ih hv => .step ih hv)
end Go.Proofs.Qxb6608620aFmt
