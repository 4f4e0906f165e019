import Derived.Test.Qxb6608618aSmall
namespace Go.Proofs.Qxb6608618a
open Go.RowKit Go.Joins
set_option linter.unusedVariables false
set_option linter.unusedSimpArgs false

theorem ix_append (c : UInt8) : ∀ l r : List UInt8, Lib.indexByte (l ++ r) c = if 0 ≤ Lib.indexByte l c then Lib.indexByte l c else if 0 ≤ Lib.indexByte r c then l.length + Lib.indexByte r c else -1
  | [], r => by
    have h := Lib.indexByte_ge r c
    have e : Lib.indexByte [] c = -1 := rfl
    rw [List.nil_append, e, if_neg (by omega)]
    by_cases h0 : 0 ≤ Lib.indexByte r c
    · rw [if_pos h0]; simp
    · rw [if_neg h0]; omega
  | b :: l, r => by
    have ih := ix_append c l r
    have hl := Lib.indexByte_ge l c
    have hr := Lib.indexByte_ge r c
    rw [List.cons_append, Lib.indexByte, ih, Lib.indexByte]
    by_cases hb : (b == c) = true
    · simp [hb]
    · rw [if_neg hb, if_neg hb]
      by_cases h0 : 0 ≤ Lib.indexByte l c
      · have h1 : ¬ ((Lib.indexByte l c == -1) = true) := by simp; omega
        rw [if_pos h0, if_neg h1, if_pos (by omega)]
      · have h1 : Lib.indexByte l c = -1 := by omega
        rw [if_neg h0, h1]
        by_cases h2 : 0 ≤ Lib.indexByte r c
        · rw [if_pos h2]
          have h3 : ¬ (((l.length : Int) + Lib.indexByte r c == -1) = true) := by simp; omega
          simp [h2]
          omega
        · rw [if_neg h2]
          simp [h2]

theorem data_app (x y : ByteArray) : (x ++ y).data.toList = x.data.toList ++ y.data.toList := by simp

theorem nul_append (x y : ByteArray) : nul (x ++ y) = if 0 ≤ nul x then nul x else if 0 ≤ nul y then x.size + nul y else -1 := by
  unfold nul
  rw [data_app, ix_append]
  rfl
theorem nul_ge (x : ByteArray) : -1 ≤ nul x := Lib.indexByte_ge _ _
theorem nul_lt (x : ByteArray) (h : 0 ≤ nul x) : nul x < x.size := by
  obtain ⟨o, ho⟩ : ∃ o : Nat, nul x = o := ⟨(nul x).toNat, by omega⟩
  obtain ⟨h1, h2⟩ := Lib.indexByte_some ho
  have := (List.getElem?_eq_some_iff.1 h1).1
  rw [ho]
  simpa using this
theorem tl_nil (x : ByteArray) : (x.toList == []) = (x.data.toList == []) := by rw [ByteArray.toList_eq]
theorem nul_of_nil {x : ByteArray} (h : (x.toList == []) = true) : nul x = -1 := by
  rw [empty_of h]; rfl
theorem nil_append (x y : ByteArray) : ((x ++ y).toList == []) = ((x.toList == []) && (y.toList == [])) := by
  rw [tl_nil, tl_nil, tl_nil, data_app]
  cases x.data.toList <;> cases y.data.toList <;> rfl
theorem pos_bounds (x : ByteArray) (h : x.size ≤ 1048576) : 0 ≤ posOf x ∧ posOf x ≤ 1048576 := by
  unfold posOf
  split
  · omega
  · have := nul_lt x (by omega); omega
theorem msg_nil {x : ByteArray} (h : nul x < 0) : ((msgOf x).toList == []) = !(x.toList == []) := by
  unfold msgOf
  split
  · rename_i h1; rw [h1]; rw [ByteArray.toList_eq]; rfl
  · rename_i h1
    have : (x.toList == []) = false := by simpa using h1
    rw [this]; rw [ByteArray.toList_eq]; rfl
theorem msg_nul {x : ByteArray} (h : 0 ≤ nul x) : ((msgOf x).toList == []) = false := msg_ne (.inr (by omega))
end Go.Proofs.Qxb6608618a
