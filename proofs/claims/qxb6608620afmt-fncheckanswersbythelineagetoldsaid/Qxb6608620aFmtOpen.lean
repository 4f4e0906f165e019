import Derived.Test.Qxb6608620aFmtGrown
import Derived.Test.Qxb6608620aFmtCards
import Derived.ProofKit
import Derived.OpenShut
import Derived.ShutString
import Derived.ChangeOld
import Derived.Deep.Strs
import Derived.Deep.Slices
import Derived.Stop.Joined
import Derived.Stop.JoinedAt
import Derived.Stop.JoinedTold
import Derived.SizedLaws
import Derived.SevenToldRow
namespace Go.Proofs.Qxb6608620aFmt
open Go.ChangeShapes Go.WideShapes Go.ChangeAt Go.RowKit Go.Kit
open Go.ChangeMaps (open_string shut_string)
open Go.Extern.Stop Go.Stop Go.Extern
set_option linter.unusedVariables false

theorem own : ownKnob Tryf.prog.godebug = none := by kernel_rfl
theorem Tryf.laidOut : laidOutB Tryf.prog = true := by kernel_rfl
theorem Tryf.cells9 : Tryf.prog.cellsOf 9 = 1 := by kernel_rfl
theorem Tryf.cells3 : Tryf.prog.cellsOf 3 = 1 := by kernel_rfl
theorem Tryf.cells22 : Tryf.prog.cellsOf 22 = 1 := by kernel_rfl
theorem Tryf.cells42 : Tryf.prog.cellsOf 42 = 1 := by kernel_rfl
theorem Tryf.stops : Tryf.pinned.checked.prog.stops = ["fmt.errorf"] := by kernel_rfl
theorem Tryf.stopKnobs : Tryf.pinned.checked.prog.stopKnobs = [] := by kernel_rfl
theorem Tryf.quiet (os : Os) : Stop.quiet Tryf.pinned.checked.prog os := by
  intro k hk
  rw [Tryf.stopKnobs] at hk
  cases hk

theorem sl_of {w : World} {ad : Addr} {n : Nat} {f : Nat → Value} (h : ∀ i, i < n → w.cell? (ad.add i) = some (f i)) : Sl w (some ad) n f := fun i hi => by
  have h0 := h 0 (by omega)
  obtain ⟨b, o, sp⟩ := ad
  have e0 : (⟨b, o, sp⟩ : Addr).add 0 = ⟨b, o, sp⟩ := by simp [Addr.add]
  rw [e0] at h0
  cases sp with
  | none => exact ⟨b, o, rfl, by rw [← addp]; exact h i hi⟩
  | some s =>
    exfalso
    unfold World.cell? at h0
    split at h0
    · simp at h0
    · cases h0

section
variable {H : Type} {enc : TypeId × Value → H} {W : World} {base : Nat} {held : Bool}
theorem row_strs {fuel : Nat} {v : Value} {x : DataW H × List MemPlace} (h : DataW.trod enc Tryf.prog W base (fun _ => true) held fuel 22 [v] = some x) : ∃ xs : List ByteArray, Row W v (strs xs) := by
  rcases Go.Deep.open_strs Tryf.underlying22 Tryf.underlying9 Tryf.cells9 h with ⟨hc, _⟩ | ⟨a, len, cap, m, Sx, hc, _, hl, hm, hmm, _, hx⟩
  · simp at hc
    subst hc
    exact ⟨[], nil_row _⟩
  · simp at hc
    subst hc
    refine ⟨(List.range len).map Sx, some a, cap, by simp, by simpa using hl, hm, ?_⟩
    rw [len_strs]
    simp only [List.length_map, List.length_range]
    refine sl_of fun i hi => ?_
    rw [(hx i (by rw [hmm]; simp; omega)).1]
    simp [List.getD, hi]
theorem row_ints {fuel : Nat} {v : Value} {x : DataW H × List MemPlace} (h : DataW.trod enc Tryf.prog W base (fun _ => true) held fuel 42 [v] = some x) : ∃ zs : List Int, Row W v (zs.map (Value.int .i64)) := by
  rcases open_ints Tryf.underlying42 Tryf.underlying3 Tryf.cells3 h with ⟨hc, _⟩ | ⟨a, len, cap, zs, hc, _, hl, hm, hz, _, hx, _⟩
  · simp at hc
    subst hc
    exact ⟨[], nil_row _⟩
  · simp at hc
    subst hc
    have hz' : zs.length = cap := by simpa using hz
    have e1 : (zs.take len).length = len := by simp; omega
    refine ⟨zs.take len, some a, cap, by simp; omega, by rw [List.length_map, e1]; exact hl, hm, ?_⟩
    rw [List.length_map, e1]
    refine sl_of fun i hi => ?_
    rw [hx i (by omega)]
    simp [List.getD, hi, show i < zs.length by omega]
theorem open0 {fuel : Nat} {a : Option Addr} {n c : Nat} {x : DataW H × List MemPlace} (h : DataW.trod enc Tryf.prog W base (fun _ => true) held fuel 22 (Value.slice a n c).cells.toList = some x) : ∃ K : Nat → ByteArray, Sl W a n (fun i => .string (K i)) ∧ n ≤ c ∧ c ≤ maxLen := by
  rcases Go.Deep.open_strs Tryf.underlying22 Tryf.underlying9 Tryf.cells9 h with ⟨hc, _⟩ | ⟨ad, len, cap, m, Sx, hc, _, hl, hm, hmm, _, hx⟩
  · simp [Value.cells] at hc
    obtain ⟨rfl, rfl, rfl⟩ := hc
    exact ⟨fun _ => ⟨#[]⟩, (fun i hi => absurd hi (Nat.not_lt_zero _)), Nat.le_refl _, Nat.zero_le _⟩
  · simp [Value.cells] at hc
    obtain ⟨rfl, rfl, rfl⟩ := hc
    exact ⟨Sx, sl_of fun i hi => (hx i (by rw [hmm]; simp; omega)).1, hl, hm⟩
theorem open1 {fuel : Nat} {a : Option Addr} {n c : Nat} {x : DataW H × List MemPlace} (h : DataW.trod enc Tryf.prog W base (fun _ => true) held fuel 23 (Value.slice a n c).cells.toList = some x) : ∃ Z : Nat → List Int, Rws W a n (fun i => (Z i).map (Value.int .i64)) ∧ n ≤ c ∧ c ≤ maxLen := by
  rcases Go.Deep.open_slice1 Tryf.underlying23 Tryf.cells42 h with ⟨hc, _⟩ | ⟨ad, len, cap, m, q, V, D, Pl, hc, _, hl, hm, hmm, _, hx⟩
  · simp [Value.cells] at hc
    obtain ⟨rfl, rfl, rfl⟩ := hc
    exact ⟨fun _ => [], (fun i hi => absurd hi (Nat.not_lt_zero _)), Nat.le_refl _, Nat.zero_le _⟩
  · simp [Value.cells] at hc
    obtain ⟨rfl, rfl, rfl⟩ := hc
    have hmm' : m = c := by simpa using hmm
    obtain ⟨Z, hZ⟩ := Go.Deep.choose_lt (α := List Int) (n := n) (p := fun i zs => Row W (V i) (zs.map (Value.int .i64))) (fun i hi => row_ints (hx i (by omega)).2)
    have hs : Sl W (some ad) n V := sl_of fun i hi => (hx i (by omega)).1
    refine ⟨Z, (fun i hi => ?_), hl, hm⟩
    obtain ⟨b, o, e1, e2⟩ := hs i hi
    exact ⟨b, o, V i, e1, e2, hZ i hi⟩
theorem open2 {fuel : Nat} {a : Option Addr} {n c : Nat} {x : DataW H × List MemPlace} (h : DataW.trod enc Tryf.prog W base (fun _ => true) held fuel 24 (Value.slice a n c).cells.toList = some x) : ∃ G : Nat → List ByteArray, Rws W a n (fun i => strs (G i)) ∧ n ≤ c ∧ c ≤ maxLen := by
  rcases Go.Deep.open_slice1 Tryf.underlying24 Tryf.cells22 h with ⟨hc, _⟩ | ⟨ad, len, cap, m, q, V, D, Pl, hc, _, hl, hm, hmm, _, hx⟩
  · simp [Value.cells] at hc
    obtain ⟨rfl, rfl, rfl⟩ := hc
    exact ⟨fun _ => [], (fun i hi => absurd hi (Nat.not_lt_zero _)), Nat.le_refl _, Nat.zero_le _⟩
  · simp [Value.cells] at hc
    obtain ⟨rfl, rfl, rfl⟩ := hc
    have hmm' : m = c := by simpa using hmm
    obtain ⟨G, hG⟩ := Go.Deep.choose_lt (α := List ByteArray) (n := n) (p := fun i xs => Row W (V i) (strs xs)) (fun i hi => row_strs (hx i (by omega)).2)
    have hs : Sl W (some ad) n V := sl_of fun i hi => (hx i (by omega)).1
    refine ⟨G, (fun i hi => ?_), hl, hm⟩
    obtain ⟨b, o, e1, e2⟩ := hs i hi
    exact ⟨b, o, V i, e1, e2, hG i hi⟩
end
end Go.Proofs.Qxb6608620aFmt
