import Derived.Test.Qxb6608620aFmtSize
namespace Go.Proofs.Qxb6608620aFmt
open Go.RowKit Go.Joins Go.Kit
set_option linter.unusedVariables false
set_option linter.unusedSimpArgs false
theorem mk46 (n : Nat) (w : World) : (Instr.makeMap 46 (some (.int .i64 (n : Int)))).run Tryf.prog w = .ok (.map (some w.heap.size)) (w.alloc (.map #[] 0)) := by
  simp [Instr.makeMap, run_underlying Tryf.underlying46, asInt, asIntOf, Result.andThen]
theorem mk49 (n : Nat) (w : World) : (Instr.makeMap 49 (some (.int .i64 (n : Int)))).run Tryf.prog w = .ok (.map (some w.heap.size)) (w.alloc (.map #[] 0)) := by
  simp [Instr.makeMap, run_underlying Tryf.underlying49, asInt, asIntOf, Result.andThen]

/-- the first k keys, the last one first -/
def upto (K : Nat → ByteArray) : Nat → List ByteArray
  | 0 => []
  | k + 1 => K k :: upto K k
theorem mem_upto {K : Nat → ByteArray} {x : ByteArray} : ∀ {k : Nat}, x ∈ upto K k ↔ ∃ i, i < k ∧ K i = x
  | 0 => by simp [upto]
  | k + 1 => by
    rw [upto, List.mem_cons, mem_upto]
    constructor
    · rintro (rfl | ⟨i, hi, rfl⟩)
      · exact ⟨k, by omega, rfl⟩
      · exact ⟨i, by omega, rfl⟩
    · rintro ⟨i, hi, rfl⟩
      by_cases e : i = k
      · subst e; exact .inl rfl
      · exact .inr ⟨i, by omega, rfl⟩

/-- no key stands twice among the first k -/
def Apart (K : Nat → ByteArray) (k : Nat) : Prop := ∀ i j, i < j → j < k → K i ≠ K j
theorem Apart.step {K : Nat → ByteArray} {k : Nat} (h : Apart K k) (hn : (upto K k).any (fun y => eqS (K k) y) = false) : Apart K (k + 1) := by
  intro i j hij hj
  by_cases e : j = k
  · subst e
    intro he
    rw [List.any_eq_false] at hn
    exact hn (K i) (mem_upto.2 ⟨i, hij, rfl⟩) (by rw [he]; exact eqS_self _)
  · exact h i j hij (by omega)

theorem Below.grownAt {B : Nat} {w wr w' : World} (h : Below B w wr) {k : Nat} (hg : wr.grownBy w' (some k)) (hk : B ≤ k) (hs : B ≤ wr.heap.size) : Below B w w' :=
  ⟨hg.os.trans h.os, hg.tape.trans h.tape, hg.output.trans h.output, Nat.le_trans h.size hg.size, fun i hi => (hg.block i (by omega) (by intro e; injection e with e; omega)).trans (h.block i hi)⟩

theorem keys9 (a : Option Addr) (n c : Nat) (K : Nat → ByteArray) (w : World) (hn : n ≤ 1048576) (hK : ∀ i, i < n → (K i).size ≤ 1048576) (hr : Sl w a n (fun i => .string (K i))) :
    Calls Tryf.prog 9 #[.slice a n c] w fun e w' => RetB e (Apart K n) ∧ Below w.heap.size w w' := by
  have hmk := mk46 n
  have HR := hide hr
  have HK := hide hK
  clear hr hK
  go_enter Tryf.func9, Tryf.ntmps9
  go_wp2
  clear hmk
  go_loopw [4] (fun i wr => ∃ k : Nat, k ≤ n ∧ i = .int .i64 k ∧ Hid (SeenS wr w.heap.size (upto K k) k) ∧ Hid (Apart K k) ∧ Hid (Below w.heap.size w wr) ∧ w.heap.size < wr.heap.size) (fun i _ => n - (intOf i).toNat)
  case atStart => exact ⟨0, Nat.zero_le _, rfl, SeenS.made w, (fun i j h1 h2 => absurd h2 (Nat.not_lt_zero _)), (Below.refl _ w).alloc (Nat.le_refl _) _, by simp⟩
  case round =>
    obtain ⟨k, hk, rfl, hseen, hap, hbel, hsz⟩ := hrel
    by_cases hlt : k < n
    · obtain ⟨b, o, ha, hc⟩ := HR.out.later hbel.out (Nat.le_refl _) k hlt
      have hz := HK.out k hlt
      have hlook := hseen.out.look (x := K k) (by omega)
      obtain ⟨w', hup, hseen', hg⟩ := hseen.out.put (x := K k) (by omega) (by omega)
      have HS := hide hseen'
      have HG := hide hg
      clear hseen hseen' hg
      subst ha
      cases h1 : ((K k).toList == [99, 117, 115, 116, 111, 109])
      · cases h2 : ((upto K k).any fun y => eqS (K k) y)
        · have HA := hide (hap.out.step h2)
          rw [h2] at hlook
          clear h2 hap
          go_wp2
          go_roundw
          case rel => exact ⟨k + 1, by omega, by go_num, HS, HA, hide (Below.grownAt hbel.out HG.out (Nat.le_refl _) (by omega)), Nat.lt_of_lt_of_le hsz HG.out.size⟩
          case measure => simp [intOf]; omega
        · rw [h2] at hlook
          clear h2 hup
          go_wp2
          go_ret
          exact ⟨.inl rfl, hbel.out⟩
      · clear hup hlook
        go_wp2
        go_ret
        exact ⟨.inl rfl, hbel.out⟩
    · have hkn : k = n := by omega
      subst hkn
      go_wp2
      go_ret
      exact ⟨.inr ⟨rfl, hap.out⟩, hbel.out⟩
end Go.Proofs.Qxb6608620aFmt
