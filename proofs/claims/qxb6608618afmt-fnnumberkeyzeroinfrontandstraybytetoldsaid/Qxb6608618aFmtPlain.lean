import Derived.Test.Qxb6608618aFmtRows
import Derived.Test.Qxb6608618aFmtShelf
import Derived.Laws.RangeString
import Derived.Laws.RangeAny
namespace Go.Proofs.Qxb6608618aFmt
open Go.RowKit
set_option linter.unusedVariables false
set_option linter.unusedSimpArgs false

abbrev M64 : Nat := 18446744073709551615
/-- the number that a text spells, where it spells one that fits -/
def val (s : ByteArray) : Option Nat := match Lib.parseUintB 64 s.data.toList with | .ok u => some u | _ => none

def isD (c : UInt8) : Bool := decide (48 ≤ c.toNat) && decide (c.toNat ≤ 57)

theorem pm_digits : ∀ (l : List UInt8) (M acc u : Nat), Lib.parseUintM M acc l = .ok u → l.all isD = true ∧ u ≤ max M acc
  | [], M, acc, u, h => by
    simp [Lib.parseUintM] at h
    subst h
    exact ⟨rfl, by omega⟩
  | c :: r, M, acc, u, h => by
    unfold Lib.parseUintM at h
    split at h
    · rename_i hc
      split at h
      · cases h
      · split at h
        · cases h
        · obtain ⟨h1, h2⟩ := pm_digits r M _ u h
          exact ⟨by simp [isD, hc, h1], by omega⟩
    · cases h

theorem val_bound {s : ByteArray} {u : Nat} (h : val s = some u) : u ≤ M64 := by
  unfold val at h
  split at h
  · rename_i v hv
    injection h with h
    subst h
    unfold Lib.parseUintB at hv
    split at hv
    · cases hv
    · have := (pm_digits _ _ _ _ hv).2
      show v ≤ 18446744073709551615
      omega
  · cases h

theorem val_parse {s : ByteArray} {u : Nat} (h : val s = some u) : Lib.parseUintB 64 s.data.toList = .ok u := by
  unfold val at h
  split at h
  · rename_i v hv
    injection h with h
    subst h
    exact hv
  · cases h

theorem val_digits {s : ByteArray} {u : Nat} (h : val s = some u) : s.data.toList ≠ [] ∧ s.data.toList.all isD = true := by
  have hv := val_parse h
  unfold Lib.parseUintB at hv
  split at hv
  · cases hv
  · exact ⟨by assumption, (pm_digits _ _ _ _ hv).1⟩

/-- the predicate that isNumber hands to strings.ContainsFunc -/
def notD (r : Nat) : Bool := decide (r < 48) || decide (57 < r)

theorem byte_of (s : ByteArray) (k : Nat) (h : k < s.size) : s.data.toList[k]? = some s[k] := by
  rw [List.getElem?_eq_getElem (by simpa using h)]
  rfl

theorem idx_digits (s : ByteArray) (hd : s.data.toList.all isD = true) : ∀ (f pos : Nat), Lib.idxFuncFrom notD true s f pos = -1
  | 0, pos => rfl
  | f + 1, pos => by
    unfold Lib.idxFuncFrom
    by_cases h : pos < s.size
    · rw [if_pos h]
      have hm : isD s[pos] = true := by
        rw [List.all_eq_true] at hd
        exact hd _ (List.mem_of_getElem? (byte_of s pos h))
      simp [isD] at hm
      have ha := decode_ascii s pos h (by omega)
      rw [ha]
      have hn : ¬ (notD (s[pos].toNat) = true) := by simp [notD]; omega
      rw [if_neg hn]
      exact idx_digits s hd f _
    · rw [if_neg h]

theorem idx_stray (s : ByteArray) : ∀ (f pos k : Nat), pos ≤ k → s.size ≤ pos + f → (hk : k < s.size) → isD s[k] = false → (∀ j, pos ≤ j → (hj : j < k) → isD (s[j]'(by omega)) = true) → 0 ≤ Lib.idxFuncFrom notD true s f pos
  | 0, pos, k, h1, h2, hk, _, _ => by omega
  | f + 1, pos, k, h1, h2, hk, hs, hb => by
    unfold Lib.idxFuncFrom
    rw [if_pos (by omega)]
    by_cases e : pos = k
    · subst e
      have hn : notD (Utf8.decode s pos).1 = true := by
        by_cases ha : (s[pos]'hk).toNat < 128
        · rw [decode_ascii s pos hk ha]
          simp [isD] at hs
          simp [notD]
          omega
        · have := (decode_high s pos hk (by omega)).1
          simp [notD]
          omega
      rw [if_pos hn]
      omega
    · have hm := hb pos (Nat.le_refl _) (by omega)
      simp [isD] at hm
      have ha := decode_ascii s pos (by omega) (by omega)
      rw [ha]
      have hn : ¬ (notD ((s[pos]'(by omega)).toNat) = true) := by simp [notD]; omega
      rw [if_neg hn]
      exact idx_stray s f _ k (by simp; omega) (by simp; omega) hk hs (fun j hj hjk => hb j (by simp at hj; omega) hjk)

theorem first_stray (s : ByteArray) (h : s.data.toList.all isD = false) : ∃ k, ∃ hk : k < s.size, isD s[k] = false ∧ ∀ j, (hj : j < k) → isD (s[j]'(by omega)) = true := by
  have : ∀ n, n ≤ s.size → (∀ j, (hj : j < n) → (hjs : j < s.size) → isD s[j] = true) ∨ ∃ k, ∃ hk : k < s.size, isD s[k] = false ∧ ∀ j, (hj : j < k) → isD (s[j]'(by omega)) = true := by
    intro n
    induction n with
    | zero => exact fun _ => .inl (fun j hj => by omega)
    | succ n ih =>
      intro hn
      rcases ih (by omega) with h1 | h1
      · cases hc : isD (s[n]'(by omega)) with
        | true => exact .inl (fun j hj hjs => by
            by_cases e : j = n
            · subst e; exact hc
            · exact h1 j (by omega) hjs)
        | false => exact .inr ⟨n, by omega, hc, fun j hj => h1 j hj (by omega)⟩
      · exact .inr h1
  rcases this s.size (Nat.le_refl _) with h1 | h1
  · exfalso
    have h2 : s.data.toList.all isD = true := by
      rw [List.all_eq_true]
      intro c hc
      obtain ⟨k, hk⟩ := List.getElem?_of_mem hc
      have hlt : k < s.size := by have := (List.getElem?_eq_some_iff.1 hk).1; simpa using this
      rw [byte_of s k hlt] at hk
      injection hk with hk
      rw [← hk]
      exact h1 k hlt hlt
    rw [h] at h2
    cases h2
  · exact h1

theorem idx_eq (s : ByteArray) : decide (0 ≤ Lib.idxFunc notD true s) = !(s.data.toList.all isD) := by
  cases h : s.data.toList.all isD with
  | true =>
    have := idx_digits s h s.size 0
    unfold Lib.idxFunc
    rw [this]
    rfl
  | false =>
    obtain ⟨k, hk, h1, h2⟩ := first_stray s h
    have := idx_stray s s.size 0 k (Nat.zero_le _) (by omega) hk h1 (fun j _ hj => h2 j hj)
    simp [Lib.idxFunc, this]
end Go.Proofs.Qxb6608618aFmt
