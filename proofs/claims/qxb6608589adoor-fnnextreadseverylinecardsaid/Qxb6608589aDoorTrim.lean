import Derived.Test.Qxb6608589aDoorRSlice
namespace Go.Proofs.Qxb6608589aDoor
open Go.RowKit Go.Joins
set_option linter.unusedVariables false

/-- a last byte x cut off -/
def tr (x : Int) (xs : List Int) : List Int := if xs.getLast? = some x then xs.dropLast else xs
theorem tr_take (x : Int) (xs : List Int) : tr x xs = xs.take (tr x xs).length := by
  unfold tr
  split
  · rw [List.dropLast_eq_take]; simp
  · simp
theorem tr_length (x : Int) (xs : List Int) : (tr x xs).length ≤ xs.length := by
  unfold tr; split <;> simp

theorem bytesIn_take {w : World} {p : Option Addr} {xs : List Int} (h : Lib.BytesIn w p xs.length xs) (k : Nat) (hk : k ≤ xs.length) : Lib.BytesIn w p k (xs.take k) := by
  intro h0
  obtain ⟨b, o, hp, hc⟩ := h (by omega)
  refine ⟨b, o, hp, fun i hi => ?_⟩
  rw [hc i (by omega)]
  simp [hi]

theorem byte_inj {x y : Int} (hx : 0 ≤ x ∧ x < 256) (hy : 0 ≤ y ∧ y < 256) (h : UInt8.ofNat x.toNat = UInt8.ofNat y.toNat) : x = y := by
  have h2 := congrArg UInt8.toNat h
  simp at h2
  omega

theorem suffix_last (xs : List Int) (x : Int) (hb : Byt xs) (hx : 0 ≤ x ∧ x < 256) : Lib.hasSuffix (Lib.bytesOf xs) (Lib.bytesOf [x]) = decide (xs.getLast? = some x) := by
  rw [Bool.eq_iff_iff]
  simp only [Lib.hasSuffix, List.isSuffixOf_iff_suffix, decide_eq_true_eq]
  rcases List.eq_nil_or_concat xs with rfl | ⟨ys, y, rfl⟩
  · simp [Lib.bytesOf]
  · simp only [Lib.bytesOf, List.map_append, List.map_cons, List.map_nil, List.concat_eq_append]
    rw [List.getLast?_append]
    constructor
    · intro h
      obtain ⟨t, ht⟩ := h
      have h2 := List.append_inj_right' ht rfl
      simp only [List.cons.injEq, and_true] at h2
      rw [byte_inj hx (hb y (by simp)) h2]; simp
    · intro h
      simp at h
      subst h
      exact List.suffix_append _ _

/-- bytes.TrimSuffix at a suffix of one byte -/
theorem trim_any (p : Option Addr) (c g d : Nat) (xs : List Int) (x : Int) (w : World) (hb : Byt xs) (hx : 0 ≤ x ∧ x < 256) (hc : xs.length ≤ c) (hl : xs.length ≤ 9223372036854775807)
    (h1 : Lib.BytesIn w p xs.length xs) (h2 : w.cell? ⟨g, 0, none⟩ = some (.int .u8 x)) :
    Calls Tryd.prog 23 #[.slice p xs.length c, .slice (some ⟨g, 0, none⟩) 1 d] w fun e w' => e = .returned (.slice p (tr x xs).length c) ∧ w' = w := by
  refine (Tryd.bytes_TrimSuffix_all p (some ⟨g, 0, none⟩) xs.length c 1 d xs [x] w rfl rfl hc hl h1 ?_).mono ?_
  · intro _
    refine ⟨g, 0, rfl, fun i hi => ?_⟩
    obtain rfl : i = 0 := by omega
    simpa using h2
  · rintro e w' ⟨rfl, rfl⟩
    refine ⟨?_, rfl⟩
    congr 1
    rcases Nat.eq_zero_or_pos xs.length with h0 | h0
    · obtain rfl : xs = [] := List.eq_nil_of_length_eq_zero h0
      unfold Lib.trimSuffixV
      split
      · simp [Lib.bytesTrimSuffix, Lib.hasSuffix, Lib.bytesOf, tr]
      · simp [tr]
    · obtain ⟨b, o, rfl, _⟩ := h1.at h0
      simp only [Lib.trimSuffixV, Lib.bytesTrimSuffix, suffix_last xs x hb hx, tr]
      by_cases h : xs.getLast? = some x
      · simp [h, Lib.sliceTo]
      · simp [h]

/-- a line as 'next' hands it out -/
def trimL (xs : List Int) : List Int := tr 13 (tr 10 xs)

end Go.Proofs.Qxb6608589aDoor
