import Derived.Test.Qxb6608620aFmtRows
import Derived.Test.Qxb6608620aFmtShelf
import Derived.WalkKit
import Derived.WalkSpells
import Derived.WalkLawsBesides
import Derived.Lib.SmallJoins
import Derived.Deep.QuietTactic
import Derived.BigQuiet
import Derived.Deep.RegionHeld3
import Derived.Laws.CopyRow
import Derived.Deep.DeepCutAuto
import Derived.Handy
import Derived.Stop.CallBack
import Derived.Stop.IfaceNil
import Derived.Stop.JoinedTold
import Derived.Stop.Texts
import Derived.Lib.IndexLaws
import GoSem.ClaimData
namespace Go.Proofs.Qxb6608620aFmt
open Go.RowKit Go.Joins Go.Kit Go.Extern.Stop Go.Stop Go.Extern
set_option linter.unusedVariables false
set_option linter.unusedSimpArgs false

theorem hide {p : Prop} (h : p) : Hid p := h
theorem ret_bool {a b : Bool} (h : a = b) : Ending.returned (.bool a) = .returned (.bool b) := by rw [h]

theorem tl_nil (x : ByteArray) : (x.toList == []) = (x.data.toList == []) := by rw [ByteArray.toList_eq]
theorem empty_of {s : ByteArray} (h : (s.toList == []) = true) : s = ⟨#[]⟩ := by
  have h1 : s.toList = [] := by simpa using h
  rw [ByteArray.toList_eq] at h1
  obtain ⟨⟨x⟩⟩ := s
  simp at h1
  subst h1
  rfl
theorem pos_of {s : ByteArray} (h : (s.toList == []) = false) : 0 < s.size := by
  rw [tl_nil] at h
  obtain ⟨⟨x⟩⟩ := s
  cases x with
  | nil => simp at h
  | cons a b => show 0 < (a :: b).length; simp

/-- may this byte stand in a name behind its first? -/
def okU (c : UInt8) : Bool := decide ((97 ≤ c.toNat ∧ c.toNat ≤ 122) ∨ (48 ≤ c.toNat ∧ c.toNat ≤ 57) ∨ c.toNat = 95)
/-- is it a name? -/
def isNm (s : ByteArray) : Bool := match s.data.toList with
  | [] => false
  | c :: r => decide (97 ≤ c.toNat ∧ c.toNat ≤ 122) && r.all okU

theorem isNm_first {s : ByteArray} (h : 0 < s.size) (hb : s[0].toNat < 97 ∨ 122 < s[0].toNat) : isNm s = false := by
  obtain ⟨⟨x⟩⟩ := s
  cases x with
  | nil => exact absurd h (Nat.lt_irrefl 0)
  | cons a b =>
    have hb' : a.toNat < 97 ∨ 122 < a.toNat := hb
    simp [isNm]
    intro h1 h2
    omega
theorem isNm_bad {s : ByteArray} {k : Nat} (hk : k < s.size) (h1 : 1 ≤ k) (hb : okU s[k] = false) : isNm s = false := by
  obtain ⟨⟨x⟩⟩ := s
  cases x with
  | nil => exact absurd hk (Nat.not_lt_zero _)
  | cons a b =>
    obtain ⟨j, rfl⟩ : ∃ j, k = j + 1 := ⟨k - 1, by omega⟩
    have hj : j < b.length := by
      have hk' : j + 1 < (a :: b).length := hk
      simpa using hk'
    have hb' : okU b[j] = false := hb
    have : b.all okU = false := by
      rw [List.all_eq_false]
      exact ⟨b[j], List.getElem_mem hj, by rw [hb']; simp⟩
    simp [isNm, this]
theorem isNm_good {s : ByteArray} (h : 0 < s.size) (h0 : 97 ≤ s[0].toNat ∧ s[0].toNat ≤ 122) (hall : ∀ k (hk : k < s.size), 1 ≤ k → okU s[k] = true) : isNm s = true := by
  obtain ⟨⟨x⟩⟩ := s
  cases x with
  | nil => exact absurd h (Nat.lt_irrefl 0)
  | cons a b =>
    have h0' : 97 ≤ a.toNat ∧ a.toNat ≤ 122 := h0
    have : b.all okU = true := by
      rw [List.all_eq_true]
      intro y hy
      obtain ⟨j, hj, rfl⟩ := List.getElem_of_mem hy
      exact hall (j + 1) (by show j + 1 < (a :: b).length; simpa using hj) (by omega)
    simp [isNm, this, h0']

theorem name25 (s : ByteArray) (w : World) (hs : s.size ≤ 2097152) : Calls Tryf.prog 25 #[.string s] w fun e w' => e = .returned (.bool (isNm s)) ∧ w' = w := by
  cases h0 : (s.toList == [])
  · have hp := pos_of h0
    by_cases ha : s[0].toNat < 97
    · rw [isNm_first hp (.inl ha)]
      go_enter Tryf.func25, Tryf.ntmps25
      go_wp2
      go_ret
      exact ⟨rfl, rfl⟩
    · by_cases hz : 122 < s[0].toNat
      · rw [isNm_first hp (.inr hz)]
        go_enter Tryf.func25, Tryf.ntmps25
        go_wp2
        go_ret
        exact ⟨rfl, rfl⟩
      · have HG := hide (fun hall => isNm_good hp ⟨by omega, by omega⟩ hall)
        have HB := hide (fun k hk h1 hb => @isNm_bad s k hk h1 hb)
        go_enter Tryf.func25, Tryf.ntmps25
        go_wp2
        go_loop [3] (fun i => ∃ k : Nat, k ≤ s.size ∧ 1 ≤ k ∧ i = .int .i64 k ∧ Hid (∀ j (hj : j < s.size), 1 ≤ j → j < k → okU s[j] = true)) (fun i => s.size - (intOf i).toNat)
        case atStart => exact ⟨1, hp, Nat.le_refl _, rfl, fun j _ h1 h2 => by omega⟩
        case round =>
          obtain ⟨k, hk, h1, rfl, hr⟩ := hrel
          by_cases hlt : k < s.size
          · cases hd : okU s[k] with
            | false =>
              have HV := hide (HB.out k hlt h1 hd)
              have hq : ¬ (97 ≤ s[k].toNat ∧ s[k].toNat ≤ 122) ∧ ¬ (48 ≤ s[k].toNat ∧ s[k].toNat ≤ 57) ∧ ¬ s[k].toNat = 95 := by simpa [okU] using hd
              obtain ⟨q1, q2, q3⟩ := hq
              have q4 : (((s[k].toNat : Nat) : Int) != 95) = true := by simp; omega
              clear hd hr HB HG q3
              by_cases c1 : s[k].toNat < 48
              · have c2 : s[k].toNat < 97 := by omega
                clear q1 q2
                go_wp2
                go_ret
                exact ⟨ret_bool HV.out.symm, rfl⟩
              · have c3 : 57 < s[k].toNat := by omega
                by_cases c4 : s[k].toNat < 97
                · clear q1 q2
                  go_wp2
                  go_ret
                  exact ⟨ret_bool HV.out.symm, rfl⟩
                · have c5 : 122 < s[k].toNat := by omega
                  clear q1 q2
                  go_wp2
                  go_ret
                  exact ⟨ret_bool HV.out.symm, rfl⟩
            | true =>
              have HS : Hid (∀ j (hj : j < s.size), 1 ≤ j → j < k + 1 → okU s[j] = true) := fun j hj h1 h2 => by
                by_cases e : j = k
                · subst e; exact hd
                · exact hr.out j hj h1 (by omega)
              have hq : (97 ≤ s[k].toNat ∧ s[k].toNat ≤ 122) ∨ (48 ≤ s[k].toNat ∧ s[k].toNat ≤ 57) ∨ s[k].toNat = 95 := by simpa [okU] using hd
              clear hd hr HB HG
              rcases hq with ⟨c1, c2⟩ | ⟨c1, c2⟩ | c1
              · have c3 : ¬ s[k].toNat < 97 := by omega
                have c4 : ¬ 122 < s[k].toNat := by omega
                go_wp2
                go_round
                case rel => exact ⟨k + 1, by omega, by omega, by go_num, HS⟩
                case measure => simp [intOf]; omega
              · have c3 : ¬ s[k].toNat < 48 := by omega
                have c4 : ¬ 57 < s[k].toNat := by omega
                have c5 : s[k].toNat < 97 := by omega
                go_wp2
                go_round
                case rel => exact ⟨k + 1, by omega, by omega, by go_num, HS⟩
                case measure => simp [intOf]; omega
              · have c3 : ¬ s[k].toNat < 48 := by omega
                have c4 : 57 < s[k].toNat := by omega
                have c5 : s[k].toNat < 97 := by omega
                have q4 : (((s[k].toNat : Nat) : Int) != 95) = false := by simp; omega
                go_wp2
                go_round
                case rel => exact ⟨k + 1, by omega, by omega, by go_num, HS⟩
                case measure => simp [intOf]; omega
          · have HV := hide (HG.out (fun j hj h1 => hr.out j hj h1 (by omega)))
            clear hr HB HG
            go_wp2
            go_ret
            exact ⟨ret_bool HV.out.symm, rfl⟩
  · obtain rfl := empty_of h0
    have e : isNm ⟨#[]⟩ = false := rfl
    rw [e]
    go_enter Tryf.func25, Tryf.ntmps25
    go_wp2
    go_ret
    exact ⟨rfl, rfl⟩
end Go.Proofs.Qxb6608620aFmt
