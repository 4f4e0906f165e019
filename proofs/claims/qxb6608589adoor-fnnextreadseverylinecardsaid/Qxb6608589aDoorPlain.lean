/- plain laws on lines: no Go in sight -/
import Derived.Test.Qxb6608589aDoorNew
namespace Go.Proofs.Qxb6608589aDoor

/-- Ls: the lines of P -/
def IsLines : List (List Int) → List Int → Prop
  | [], P => P = []
  | L :: Ls, P => ∃ X P', P = X ++ P' ∧ Piece X P' ∧ L = trimL X ∧ IsLines Ls P'

theorem Piece.pos {X P' : List Int} (h : Piece X P') : 0 < X.length := by
  rcases h with ⟨X0, rfl, _⟩ | ⟨_, _, h⟩
  · simp
  · exact List.length_pos_iff.2 h

theorem nl_unique : ∀ (X Y P Q : List Int), 10 ∉ X → 10 ∉ Y → X ++ 10 :: P = Y ++ 10 :: Q → X = Y ∧ P = Q
  | [], [], P, Q, _, _, h => by simpa using h
  | [], y :: Y, P, Q, _, hy, h => by simp at h; exact absurd (by simp [h.1]) hy
  | x :: X, [], P, Q, hx, _, h => by simp at h; exact absurd (by simp [h.1]) hx
  | x :: X, y :: Y, P, Q, hx, hy, h => by
    simp only [List.cons_append, List.cons.injEq] at h
    have ih := nl_unique X Y P Q (fun hm => hx (List.mem_cons_of_mem _ hm)) (fun hm => hy (List.mem_cons_of_mem _ hm)) h.2
    exact ⟨by rw [h.1, ih.1], ih.2⟩

theorem Piece.unique {X Y P Q : List Int} (hx : Piece X P) (hy : Piece Y Q) (h : X ++ P = Y ++ Q) : X = Y ∧ P = Q := by
  rcases hx with ⟨X0, rfl, h1⟩ | ⟨h1, rfl, h2⟩
  · rcases hy with ⟨Y0, rfl, h3⟩ | ⟨h3, rfl, h4⟩
    · have := nl_unique X0 Y0 P Q h1 h3 (by simpa using h)
      exact ⟨by rw [this.1], this.2⟩
    · exact absurd (by rw [List.append_nil] at h; rw [← h]; simp) h3
  · rcases hy with ⟨Y0, rfl, h3⟩ | ⟨h3, rfl, h4⟩
    · exact absurd (by rw [List.append_nil] at h; rw [h]; simp) h1
    · simpa using h

theorem IsLines.unique : ∀ {Ls Ms : List (List Int)} {P : List Int}, IsLines Ls P → IsLines Ms P → Ls = Ms
  | [], [], _, _, _ => rfl
  | [], M :: Ms, P, h1, h2 => by
    obtain ⟨X, P', hP, hp, _⟩ := h2
    rw [show P = [] from h1] at hP
    have := hp.pos
    have h3 := congrArg List.length hP
    simp at h3; omega
  | L :: Ls, [], P, h1, h2 => by
    obtain ⟨X, P', hP, hp, _⟩ := h1
    rw [show P = [] from h2] at hP
    have := hp.pos
    have h3 := congrArg List.length hP
    simp at h3; omega
  | L :: Ls, M :: Ms, P, h1, h2 => by
    obtain ⟨X, P', hP, hp, hL, hr⟩ := h1
    obtain ⟨Y, Q', hQ, hq, hM, hs⟩ := h2
    have h3 := hp.unique hq (hP.symm.trans hQ)
    rw [h3.2] at hr
    rw [hL, hM, h3.1, hr.unique hs]

/-- empty, or a line feed at the end -/
def Ends (a : List Int) : Prop := a = [] ∨ a.getLast? = some 10

theorem IsLines.join : ∀ {La Lb : List (List Int)} {a b : List Int}, Ends a → IsLines La a → IsLines Lb b → IsLines (La ++ Lb) (a ++ b)
  | [], Lb, a, b, _, h1, h2 => by rw [show a = [] from h1]; exact h2
  | L :: La, Lb, a, b, he, h1, h2 => by
    obtain ⟨X, a', ha, hp, hL, hr⟩ := h1
    rcases hp with ⟨X0, hX, h0⟩ | ⟨h0, ha', hX⟩
    · refine ⟨X, a' ++ b, by rw [ha, List.append_assoc], Or.inl ⟨X0, hX, h0⟩, hL, hr.join ?_ h2⟩
      rcases he with he | he
      · rw [ha] at he; simp at he; left; exact he.2
      · by_cases hz : a' = []
        · left; exact hz
        · right
          rw [ha, List.getLast?_append] at he
          cases hl : a'.getLast? with
          | none => rw [List.getLast?_eq_none_iff] at hl; exact absurd hl hz
          | some y => rw [hl] at he; simpa using he
    · exfalso
      rw [ha, ha', List.append_nil] at he
      rcases he with he | he
      · exact hX he
      · exact h0 (List.mem_of_getLast? he)

theorem last_getD (xs : List Int) : xs[xs.length - 1]?.getD 10 = xs.getLast?.getD 10 := by rw [List.getLast?_eq_getElem?]

theorem IsLines.count : ∀ {Ls : List (List Int)} {P : List Int}, IsLines Ls P → Ls.length = countLn P
  | [], P, h => by rw [show P = [] from h]; rfl
  | L :: Ls, P, h => by
    obtain ⟨X, P', hP, hp, hL, hr⟩ := h
    have ih := hr.count
    rw [List.length_cons, ih, hP]
    simp only [countLn, last_getD]
    rcases hp with ⟨X0, rfl, h0⟩ | ⟨h0, rfl, hX⟩
    · rw [List.count_append, List.count_append, List.count_eq_zero_of_not_mem h0, List.getLast?_append]
      cases hl : P'.getLast? with
      | none => simp; omega
      | some y => simp; omega
    · rw [List.append_nil, List.count_eq_zero_of_not_mem h0]
      cases hl : X.getLast? with
      | none => rw [List.getLast?_eq_none_iff] at hl; exact absurd hl hX
      | some y =>
        have hy : y ≠ 10 := fun h => h0 (by rw [← h]; exact List.mem_of_getLast? hl)
        simp [hy]
end Go.Proofs.Qxb6608589aDoor
