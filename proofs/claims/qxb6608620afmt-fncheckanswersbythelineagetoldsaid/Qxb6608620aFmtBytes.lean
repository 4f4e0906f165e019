import Derived.Test.Qxb6608620aFmtSize
namespace Go.Proofs.Qxb6608620aFmt
open Go.RowKit Go.Joins Go.Kit
set_option linter.unusedVariables false
set_option linter.unusedSimpArgs false

/-- all lengths are at most 1<<20 -/
structure Small (n : Nat) (K : Nat → ByteArray) (n2 : Nat) (X : Nat → List Value) (n3 : Nat) (G : Nat → List ByteArray) : Prop where
  b1 : n ≤ 1048576
  bk : ∀ i, i < n → (K i).size ≤ 1048576
  b2 : n2 ≤ 1048576
  bx : ∀ i, i < n2 → (X i).length ≤ 1048576
  b3 : n3 ≤ 1048576
  bg : ∀ i, i < n3 → (G i).length ≤ 1048576 ∧ ∀ x ∈ G i, x.size ≤ 1048576

set_option maxRecDepth 100000 in
set_option maxHeartbeats 8000000 in
theorem bytes15 (a : Option Addr) (n c : Nat) (K : Nat → ByteArray) (a2 : Option Addr) (n2 c2 : Nat) (X : Nat → List Value) (a3 : Option Addr) (n3 c3 : Nat) (G : Nat → List ByteArray) (t : Int) (p : ByteArray) (w : World) (hr : Sl w a n (fun i => .string (K i))) (hr2 : Rws w a2 n2 X) (hr3 : Rws w a3 n3 (fun i => strs (G i))) :
    Calls Tryf.prog 15 #[.slice a n c, .slice a2 n2 c2, .slice a3 n3 c3, .int .i64 t, .string p] w fun e w' => RetB e (Small n K n2 X n3 G ∧ p.size ≤ 1048576) ∧ w' = w := by
  have HR := hide hr
  have HR2 := hide hr2
  have HR3 := hide hr3
  clear hr hr2 hr3
  by_cases g1 : 1048576 < n
  · go_enter Tryf.func15, Tryf.ntmps15
    go_wp2
    go_ret
    exact ⟨.inl rfl, rfl⟩
  go_enter Tryf.func15, Tryf.ntmps15
  go_wp2
  go_loop [11, 12] (fun z i => ∃ (k : Nat) (r : Int), k ≤ n ∧ i = .int .i64 k ∧ z = .int .i64 r ∧ 0 ≤ r ∧ r ≤ 1048576 ∧ Hid (∀ i, i < k → (K i).size ≤ 1048576)) (fun _ i => n - (intOf i).toNat)
  case atStart => exact ⟨0, n, Nat.zero_le _, rfl, rfl, by omega, by omega, fun i hi => absurd hi (Nat.not_lt_zero _)⟩
  case round =>
    obtain ⟨k, r, hk, rfl, rfl, r0, r1, hall⟩ := hrel
    by_cases hlt : k < n
    · obtain ⟨b, o, ha, hc⟩ := HR.out k hlt
      subst ha
      by_cases c1 : 1048576 < (K k).size
      · go_wp2
        go_ret
        exact ⟨.inl rfl, rfl⟩
      · by_cases c2 : 1048576 < r + (K k).size
        · go_wp2
          go_ret
          exact ⟨.inl rfl, rfl⟩
        · have HS : Hid (∀ i, i < k + 1 → (K i).size ≤ 1048576) := fun i hi => by
            by_cases e : i = k
            · subst e; omega
            · exact hall.out i (by omega)
          clear hall
          go_wp2
          go_round
          case rel => exact ⟨k + 1, r + (K k).size, by omega, by go_num, by go_num, by omega, by omega, HS⟩
          case measure => simp [intOf]; omega
    · have hkn : k = n := by omega
      subst hkn
      clear hlt hk
      by_cases g2 : 1048576 < n2
      · go_wp2
        go_ret
        exact ⟨.inl rfl, rfl⟩
      by_cases g3 : 1048576 < r + n2
      · go_wp2
        go_ret
        exact ⟨.inl rfl, rfl⟩
      go_wp2
      go_loop [11, 13] (fun z i => ∃ (k : Nat) (r : Int), k ≤ n2 ∧ i = .int .i64 k ∧ z = .int .i64 r ∧ 0 ≤ r ∧ r ≤ 1048576 ∧ Hid (∀ i, i < k → (X i).length ≤ 1048576)) (fun _ i => n2 - (intOf i).toNat)
      case atStart => exact ⟨0, r + n2, Nat.zero_le _, rfl, by go_num, by omega, by omega, fun i hi => absurd hi (Nat.not_lt_zero _)⟩
      case round =>
        obtain ⟨k2, r, hk2, rfl, rfl, r0, r1, hall2⟩ := hrel
        by_cases hlt2 : k2 < n2
        · obtain ⟨b, o, v, ha, hc, a', c', rfl, q1, q2, _⟩ := HR2.out k2 hlt2
          subst ha
          by_cases c1 : 1048576 < (X k2).length
          · go_wp2
            go_ret
            exact ⟨.inl rfl, rfl⟩
          · by_cases c2 : 1048576 < r + (X k2).length
            · go_wp2
              go_ret
              exact ⟨.inl rfl, rfl⟩
            · have HS : Hid (∀ i, i < k2 + 1 → (X i).length ≤ 1048576) := fun i hi => by
                by_cases e : i = k2
                · subst e; omega
                · exact hall2.out i (by omega)
              clear hall2
              go_wp2
              go_round
              case rel => exact ⟨k2 + 1, r + (X k2).length, by omega, by go_num, by go_num, by omega, by omega, HS⟩
              case measure => simp [intOf]; omega
        · have hkn2 : k2 = n2 := by omega
          subst hkn2
          clear hlt2 hk2
          by_cases g4 : 1048576 < n3
          · go_wp2
            go_ret
            exact ⟨.inl rfl, rfl⟩
          by_cases g5 : 1048576 < r + n3
          · go_wp2
            go_ret
            exact ⟨.inl rfl, rfl⟩
          go_wp2
          go_loop [11, 14] (fun z i => ∃ (k : Nat) (r : Int), k ≤ n3 ∧ i = .int .i64 k ∧ z = .int .i64 r ∧ 0 ≤ r ∧ r ≤ 1048576 ∧ Hid (∀ i, i < k → (G i).length ≤ 1048576 ∧ ∀ x ∈ G i, x.size ≤ 1048576)) (fun _ i => n3 - (intOf i).toNat)
          case atStart => exact ⟨0, r + n3, Nat.zero_le _, rfl, by go_num, by omega, by omega, fun i hi => absurd hi (Nat.not_lt_zero _)⟩
          case round =>
            obtain ⟨k3, r, hk3, rfl, rfl, r0, r1, hall3⟩ := hrel
            by_cases hlt3 : k3 < n3
            · obtain ⟨b, o, v, ha, hc, a', c', rfl, q1, q2, q3⟩ := HR3.out k3 hlt3
              have HQ := hide q3
              rw [len_strs] at hc q1
              clear q3
              subst ha
              by_cases c1 : 1048576 < (G k3).length
              · go_wp2
                go_ret
                exact ⟨.inl rfl, rfl⟩
              · by_cases c2 : 1048576 < r + (G k3).length
                · go_wp2
                  go_ret
                  exact ⟨.inl rfl, rfl⟩
                · go_wp2
                  go_loop [11, 15] (fun z i => ∃ (j : Nat) (r : Int), j ≤ (G k3).length ∧ i = .int .i64 j ∧ z = .int .i64 r ∧ 0 ≤ r ∧ r ≤ 1048576 ∧ Hid (∀ i, i < j → ((G k3).getD i ⟨#[]⟩).size ≤ 1048576)) (fun _ i => (G k3).length - (intOf i).toNat)
                  case atStart => exact ⟨0, r + (G k3).length, Nat.zero_le _, rfl, by go_num, by omega, by omega, fun i hi => absurd hi (Nat.not_lt_zero _)⟩
                  case round =>
                    obtain ⟨j, r', hj, rfl, rfl, s0, s1, hin⟩ := hrel
                    by_cases hjl : j < (G k3).length
                    · obtain ⟨b', o', ha', hc'⟩ := HQ.out j (by rw [len_strs]; exact hjl)
                      obtain ⟨x, ex⟩ : ∃ x, x = (G k3).getD j ⟨#[]⟩ := ⟨_, rfl⟩
                      replace hc' : w.cell? ⟨b', o' + j, none⟩ = some (.string x) := by rw [ex, ← strs_get hjl]; exact hc'
                      have HX := hide ex
                      clear ex
                      subst ha'
                      by_cases c3 : 1048576 < x.size
                      · go_wp2
                        go_ret
                        exact ⟨.inl rfl, rfl⟩
                      · by_cases c4 : 1048576 < r' + x.size
                        · go_wp2
                          go_ret
                          exact ⟨.inl rfl, rfl⟩
                        · have HS : Hid (∀ i, i < j + 1 → ((G k3).getD i ⟨#[]⟩).size ≤ 1048576) := fun i hi => by
                            by_cases e : i = j
                            · subst e; rw [← HX.out]; omega
                            · exact hin.out i (by omega)
                          clear hin
                          go_wp2
                          go_round
                          case rel => exact ⟨j + 1, r' + x.size, by omega, by go_num, by go_num, by omega, by omega, HS⟩
                          case measure => simp [intOf]; omega
                    · have HS : Hid (∀ i, i < k3 + 1 → (G i).length ≤ 1048576 ∧ ∀ x ∈ G i, x.size ≤ 1048576) := fun i hi => by
                        by_cases e : i = k3
                        · subst e
                          refine ⟨by omega, fun x hx => ?_⟩
                          obtain ⟨q, hq, rfl⟩ := List.getElem_of_mem hx
                          have := hin.out q (by omega)
                          simpa [List.getD, hq] using this
                        · exact hall3.out i (by omega)
                      clear hin hall3
                      go_wp2
                      go_round
                      case rel => exact ⟨k3 + 1, r', by omega, by go_num, rfl, by omega, by omega, HS⟩
                      case measure => simp [intOf]; omega
            · have hkn3 : k3 = n3 := by omega
              subst hkn3
              clear hlt3 hk3
              by_cases dp : 1048576 < p.size
              · go_wp2
                go_ret
                exact ⟨.inl rfl, rfl⟩
              by_cases ep : 1048576 < r + p.size
              · go_wp2
                go_ret
                exact ⟨.inl rfl, rfl⟩
              go_wp2
              go_ret
              exact ⟨.inr ⟨rfl, ⟨⟨by omega, hall.out, by omega, hall2.out, by omega, hall3.out⟩, by omega⟩⟩, rfl⟩
end Go.Proofs.Qxb6608620aFmt
