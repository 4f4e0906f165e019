import Derived.Test.Qxb6608620aFmtMem
namespace Go.Proofs.Qxb6608620aFmt
open Go.RowKit Go.Joins Go.Kit
set_option linter.unusedVariables false
set_option linter.unusedSimpArgs false

theorem strs8 (a : Option Addr) (n c : Nat) (K : Nat → ByteArray) (z : Int) (w : World) (hn : n ≤ 1048576) (hK : ∀ i, i < n → (K i).size ≤ 1048576) (h0 : 0 ≤ z) (h1 : z ≤ 4194304) (hr : Sl w a n (fun i => .string (K i))) :
    Calls Tryf.prog 8 #[.slice a n c, .int .i64 z] w fun e w' => (∃ r : Int, 0 ≤ r ∧ r ≤ 4194304 ∧ e = .returned (.int .i64 r)) ∧ w' = w := by
  have HR := hide hr
  have HK := hide hK
  clear hr hK
  go_enter Tryf.func8, Tryf.ntmps8
  go_wp2
  go_loop [1, 5] (fun z i => ∃ (k : Nat) (r : Int), k ≤ n ∧ i = .int .i64 k ∧ z = .int .i64 r ∧ 0 ≤ r ∧ r ≤ 4194304) (fun _ i => n - (intOf i).toNat)
  case atStart => exact ⟨0, z, Nat.zero_le _, rfl, rfl, h0, h1⟩
  case round =>
    obtain ⟨k, r, hk, rfl, rfl, r0, r1⟩ := hrel
    by_cases hlt : k < n
    · by_cases hm : r ≤ 1048576
      · obtain ⟨b, o, ha, hc⟩ := HR.out k hlt
        have hz := HK.out k hlt
        subst ha
        go_wp2
        go_round
        case rel => exact ⟨k + 1, r + (K k).size, by omega, by go_num, by go_num, by omega, by omega⟩
        case measure => simp [intOf]; omega
      · go_wp2
        go_ret
        exact ⟨⟨r, r0, r1, rfl⟩, rfl⟩
    · go_wp2
      go_ret
      exact ⟨⟨r, r0, r1, rfl⟩, rfl⟩

theorem ints7 (a : Option Addr) (n c : Nat) (X : Nat → List Value) (z : Int) (w : World) (hn : n ≤ 1048576) (h0 : 0 ≤ z) (h1 : z ≤ 4194304) (hr : Rws w a n X) :
    Calls Tryf.prog 7 #[.slice a n c, .int .i64 z] w fun e w' => (∃ r : Int, 0 ≤ r ∧ r ≤ 4194304 ∧ e = .returned (.int .i64 r)) ∧ w' = w := by
  have HR := hide hr
  clear hr
  go_enter Tryf.func7, Tryf.ntmps7
  go_wp2
  go_loop [1, 5] (fun z i => ∃ (k : Nat) (r : Int), k ≤ n ∧ i = .int .i64 k ∧ z = .int .i64 r ∧ 0 ≤ r ∧ r ≤ 4194304) (fun _ i => n - (intOf i).toNat)
  case atStart => exact ⟨0, z, Nat.zero_le _, rfl, rfl, h0, h1⟩
  case round =>
    obtain ⟨k, r, hk, rfl, rfl, r0, r1⟩ := hrel
    by_cases hlt : k < n
    · by_cases hm : r ≤ 1048576
      · obtain ⟨b, o, v, ha, hc, a', c', rfl, q1, q2, _⟩ := HR.out k hlt
        subst ha
        by_cases hl : 131072 < (X k).length
        · go_wp2
          go_ret
          exact ⟨⟨_, by omega, by omega, rfl⟩, rfl⟩
        · go_wp2
          go_round
          case rel => exact ⟨k + 1, r + 8 * (X k).length, by omega, by go_num, by go_num, by omega, by omega⟩
          case measure => simp [intOf]; omega
      · go_wp2
        go_ret
        exact ⟨⟨r, r0, r1, rfl⟩, rfl⟩
    · go_wp2
      go_ret
      exact ⟨⟨r, r0, r1, rfl⟩, rfl⟩

theorem strs_get {G : List ByteArray} {j : Nat} (h : j < G.length) : (strs G).getD j undef = .string (G.getD j ⟨#[]⟩) := by
  simp [List.getD, h]
theorem len_strs (G : List ByteArray) : (strs G).length = G.length := by simp

theorem rows6 (a : Option Addr) (n c : Nat) (G : Nat → List ByteArray) (z : Int) (w : World) (hn : n ≤ 1048576) (hL : ∀ i, i < n → (G i).length ≤ 1048576) (hG : ∀ i, i < n → ∀ x ∈ G i, x.size ≤ 1048576) (h0 : 0 ≤ z) (h1 : z ≤ 4194304) (hr : Rws w a n (fun i => strs (G i))) :
    Calls Tryf.prog 6 #[.slice a n c, .int .i64 z] w fun e w' => (∃ r : Int, 0 ≤ r ∧ r ≤ 4194304 ∧ e = .returned (.int .i64 r)) ∧ w' = w := by
  have HR := hide hr
  have HL := hide hL
  have HG := hide hG
  clear hr hL hG
  go_enter Tryf.func6, Tryf.ntmps6
  go_wp2
  go_loop [1, 5] (fun z i => ∃ (k : Nat) (r : Int), k ≤ n ∧ i = .int .i64 k ∧ z = .int .i64 r ∧ 0 ≤ r ∧ r ≤ 4194304) (fun _ i => n - (intOf i).toNat)
  case atStart => exact ⟨0, z, Nat.zero_le _, rfl, rfl, h0, h1⟩
  case round =>
    obtain ⟨k, r, hk, rfl, rfl, r0, r1⟩ := hrel
    by_cases hlt : k < n
    · by_cases hm : r ≤ 1048576
      · obtain ⟨b, o, v, ha, hc, a', c', rfl, q1, q2, q3⟩ := HR.out k hlt
        have hlk := HL.out k hlt
        have HQ := hide q3
        rw [len_strs] at hc q1
        clear q3
        subst ha
        go_wp2
        go_loop [1, 6] (fun z i => ∃ (j : Nat) (r : Int), j ≤ (G k).length ∧ i = .int .i64 j ∧ z = .int .i64 r ∧ 0 ≤ r ∧ r ≤ 4194304) (fun _ i => (G k).length - (intOf i).toNat)
        case atStart => exact ⟨0, r + (G k).length, Nat.zero_le _, rfl, by go_num, by omega, by omega⟩
        case round =>
          obtain ⟨j, r', hj, rfl, rfl, s0, s1⟩ := hrel
          by_cases hjl : j < (G k).length
          · by_cases hm' : r' ≤ 1048576
            · obtain ⟨b', o', ha', hc'⟩ := HQ.out j (by rw [len_strs]; exact hjl)
              obtain ⟨x, ex⟩ : ∃ x, x = (G k).getD j ⟨#[]⟩ := ⟨_, rfl⟩
              replace hc' : w.cell? ⟨b', o' + j, none⟩ = some (.string x) := by rw [ex, ← strs_get hjl]; exact hc'
              have hx : x.size ≤ 1048576 := by rw [ex]; exact HG.out k hlt ((G k).getD j ⟨#[]⟩) (by simp [List.getD, hjl])
              clear ex
              subst ha'
              go_wp2
              go_round
              case rel => exact ⟨j + 1, r' + x.size, by omega, by go_num, by go_num, by omega, by omega⟩
              case measure => simp [intOf]; omega
            · go_wp2
              go_round
              case rel => exact ⟨k + 1, r', by omega, by go_num, rfl, by omega, by omega⟩
              case measure => simp [intOf]; omega
          · go_wp2
            go_round
            case rel => exact ⟨k + 1, r', by omega, by go_num, rfl, by omega, by omega⟩
            case measure => simp [intOf]; omega
      · go_wp2
        go_ret
        exact ⟨⟨r, r0, r1, rfl⟩, rfl⟩
    · go_wp2
      go_ret
      exact ⟨⟨r, r0, r1, rfl⟩, rfl⟩

theorem ints_get {Z : List Int} {j : Nat} (h : j < Z.length) : (Z.map (Value.int .i64)).getD j undef = .int .i64 (Z.getD j 0) := by
  simp [List.getD, h]

/-- it returns false, or true where p holds -/
def RetB (e : Ending) (p : Prop) : Prop := e = .returned (.bool false) ∨ (e = .returned (.bool true) ∧ p)

theorem fit10 (a : Option Addr) (n c m : Nat) (Z : Nat → List Int) (w : World) (hn : n ≤ 1048576) (hm : m ≤ 1048576) (hL : ∀ i, i < n → (Z i).length ≤ 1048576) (hr : Rws w a n (fun i => (Z i).map (Value.int .i64))) :
    Calls Tryf.prog 10 #[.slice a n c, .int .i64 (m : Int)] w fun e w' => RetB e (∀ i, i < n → ∀ x ∈ Z i, 0 ≤ x ∧ x < (m : Int)) ∧ w' = w := by
  have HR := hide hr
  have HL := hide hL
  clear hr hL
  go_enter Tryf.func10, Tryf.ntmps10
  go_wp2
  go_loop [5] (fun i => ∃ (k : Nat), k ≤ n ∧ i = .int .i64 k ∧ Hid (∀ i, i < k → ∀ x ∈ Z i, 0 ≤ x ∧ x < (m : Int))) (fun i => n - (intOf i).toNat)
  case atStart => exact ⟨0, Nat.zero_le _, rfl, fun i hi => absurd hi (Nat.not_lt_zero _)⟩
  case round =>
    obtain ⟨k, hk, rfl, hall⟩ := hrel
    by_cases hlt : k < n
    · obtain ⟨b, o, v, ha, hc, a', c', rfl, q1, q2, q3⟩ := HR.out k hlt
      have hlk := HL.out k hlt
      have HQ := hide q3
      rw [List.length_map] at hc q1
      clear q3
      subst ha
      go_wp2
      go_loop [6] (fun i => ∃ (j : Nat), j ≤ (Z k).length ∧ i = .int .i64 j ∧ Hid (∀ i, i < j → 0 ≤ (Z k).getD i 0 ∧ (Z k).getD i 0 < (m : Int))) (fun i => (Z k).length - (intOf i).toNat)
      case atStart => exact ⟨0, Nat.zero_le _, rfl, fun i hi => absurd hi (Nat.not_lt_zero _)⟩
      case round =>
        obtain ⟨j, hj, rfl, hin⟩ := hrel
        by_cases hjl : j < (Z k).length
        · obtain ⟨b', o', ha', hc'⟩ := HQ.out j (by rw [List.length_map]; exact hjl)
          obtain ⟨x, hx⟩ : ∃ x, x = (Z k).getD j 0 := ⟨_, rfl⟩
          replace hc' : w.cell? ⟨b', o' + j, none⟩ = some (.int .i64 x) := by rw [hx, ← ints_get hjl]; exact hc'
          have HX := hide hx
          clear hx
          subst ha'
          by_cases c1 : x < 0
          · clear hin hall
            go_wp2
            go_ret
            exact ⟨.inl rfl, rfl⟩
          · by_cases c2 : (m : Int) ≤ x
            · clear hin hall
              go_wp2
              go_ret
              exact ⟨.inl rfl, rfl⟩
            · have HS : Hid (∀ i, i < j + 1 → 0 ≤ (Z k).getD i 0 ∧ (Z k).getD i 0 < (m : Int)) := fun i hi => by
                by_cases e : i = j
                · subst e
                  rw [← HX.out]
                  exact ⟨by omega, by omega⟩
                · exact hin.out i (by omega)
              clear hin
              go_wp2
              go_round
              case rel => exact ⟨j + 1, by omega, by go_num, HS⟩
              case measure => simp [intOf]; omega
        · have HS : Hid (∀ i, i < k + 1 → ∀ x ∈ Z i, 0 ≤ x ∧ x < (m : Int)) := fun i hi x hx => by
            by_cases e : i = k
            · subst e
              obtain ⟨q, hq, rfl⟩ := List.getElem_of_mem hx
              have := hin.out q (by omega)
              simpa [List.getD, hq] using this
            · exact hall.out i (by omega) x hx
          clear hin hall
          go_wp2
          go_round
          case rel => exact ⟨k + 1, by omega, by go_num, HS⟩
          case measure => simp [intOf]; omega
    · have HS : Hid (∀ i, i < n → ∀ x ∈ Z i, 0 ≤ x ∧ x < (m : Int)) := fun i hi => hall.out i (by omega)
      clear hall
      go_wp2
      go_ret
      exact ⟨.inr ⟨rfl, HS.out⟩, rfl⟩
end Go.Proofs.Qxb6608620aFmt
