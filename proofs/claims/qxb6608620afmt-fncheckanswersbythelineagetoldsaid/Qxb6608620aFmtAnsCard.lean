import Derived.Test.Qxb6608620aFmtOpen
import Derived.Test.Qxb6608620aFmtAns0
import Derived.Test.Qxb6608620aFmtAns
namespace Go.Proofs.Qxb6608620aFmt
open Go.ChangeShapes Go.WideShapes Go.ChangeAt Go.RowKit Go.Kit
open Go.ChangeMaps (open_string shut_string)
open Go.Extern.Stop Go.Stop Go.Extern
set_option linter.unusedVariables false

theorem ans_walk (F : Interp) (a a2 a3 : Option Addr) (n n2 n3 c c2 c3 : Nat) (K : Nat → ByteArray) (Z : Nat → List Int) (G : Nat → List ByteArray) (tm p : ByteArray) (w : World) (hF : F.answers w.tape)
    (h0 : Sl w a n (fun i => .string (K i)) ∧ n ≤ c ∧ c ≤ maxLen) (h1 : Rws w a2 n2 (fun i => (Z i).map (Value.int .i64)) ∧ n2 ≤ c2 ∧ c2 ≤ maxLen) (h2 : Rws w a3 n3 (fun i => strs (G i)) ∧ n3 ≤ c3 ∧ c3 ≤ maxLen) :
    Calls Tryf.prog 3 #[.slice a n c, .slice a2 n2 c2, .slice a3 n3 c3, .string tm, .string p] w fun e w' => e = .returned (.bool true) ∧ Below w.heap.size w w' := by
  by_cases hin : n ≤ 65536 ∧ tm.size ≤ 65536 ∧ p.size ≤ 65536 ∧ n2 = n ∧ n3 = n
  · obtain ⟨e1, e2, e3, e4, e5⟩ := hin
    subst e4
    subst e5
    cases hq : permOf p with
    | none => exact ans_bad F a a2 a3 _ c c2 c3 K Z G tm p w hF h0.1 h1.1 h2.1 e1 e2 e3 hq
    | some q =>
      obtain ⟨r, a0, c0⟩ := q
      by_cases hm : ∃ i, i < n3 ∧ tm = K i
      · obtain ⟨i, hi, rfl⟩ := hm
        exact ans_main F a a2 a3 _ c c2 c3 K Z G i p w hF h0.1 h1.1 h2.1 e1 e2 e3 hi r a0 c0 hq
      · exact ans_miss F a a2 a3 _ c c2 c3 K Z G tm p w hF h0.1 h1.1 h2.1 e1 e2 e3 r a0 c0 hq (fun i hi e => hm ⟨i, hi, e⟩)
  · exact ans_out F a a2 a3 n n2 n3 c c2 c3 K Z G tm p w h0.1 h1.1 h2.1 hin

set_option maxRecDepth 100000 in
set_option maxHeartbeats 4000000 in
theorem ans_lifted (os : Os) (started : os.Started) (H : Type) (enc : TypeId × Value → H) :
    ReturnsInTold none {} Tryf.checked os 3 .any Input.okWide ((OpenSpec.ofChange Rows.fnCheckAnswersByTheLineageSpec).preRow enc Tryf.prog Tryf.f3 Rows.fnCheckAnswersByTheLineageRow.domain false Rows.fnCheckAnswersByTheLineageRow.laid) (fun F => ((OpenSpec.ofChange Rows.fnCheckAnswersByTheLineageSpec).at F).post enc Tryf.prog Tryf.f3 false true false false) (aloneAtReturn Tryf.prog) nothingAlways := by
  refine returnsInTold_of_row (C := Tryf.checked) (s := OpenSpec.ofChange Rows.fnCheckAnswersByTheLineageSpec) (by kernel_rfl) own started (by kernel_rfl) Tryf.func3
    (OpenSpec.witness_stopped (enc := enc) (C := Tryf.checked) false ⟨#[], #[.slice none 0 0, .slice none 0 0, .slice none 0 0, .string ⟨#[]⟩, .string ⟨#[]⟩], []⟩ 8 (by kernel_rfl) (by kernel_rfl) (by kernel_rfl) (by kernel_rfl)) ?_
  intro F W base args ds gs before _ hF hval0 hW _ _ _ _ _
  have hval : ∀ (j : Nat) t v, Tryf.f3.params[j]? = some t → args[j]? = some v → Value.okWide Tryf.prog W .any base t v := hval0
  have hW' := hW
  obtain ⟨p, q, hA0, hV, rfl, _, _⟩ := hW
  have hA : DataW.TrodAll enc Tryf.prog W 0 (fun _ => true) true Tryf.f3.params.toList args.toList ds p := hA0
  rw [Tryf.params3] at hA hval
  obtain ⟨v0, vs0, d0, ds0, p0, q0, hargs, rfl, rfl, h0, r0⟩ := trodAll_cons hA
  obtain ⟨v1, vs1, d1, ds1, p1, q1, rfl, rfl, rfl, h1, r1⟩ := trodAll_cons r0
  obtain ⟨v2, vs2, d2, ds2, p2, q2, rfl, rfl, rfl, h2, r2⟩ := trodAll_cons r1
  obtain ⟨v3, vs3, d3, ds3, p3, q3, rfl, rfl, rfl, h3, r3⟩ := trodAll_cons r2
  obtain ⟨v4, vs4, d4, ds4, p4, q4, rfl, rfl, rfl, h4, r4⟩ := trodAll_cons r3
  obtain ⟨rfl, rfl, rfl⟩ := trodAll_nil r4
  obtain rfl : args = #[v0, v1, v2, v3, v4] := by cases args; simp_all
  obtain ⟨rfl, rfl⟩ := trodVars_none hV
  obtain ⟨a0, n0, c0, rfl⟩ := okWide_slice Tryf.underlying22 (hval 0 22 v0 rfl rfl)
  obtain ⟨a1, n1, c1, rfl⟩ := okWide_slice Tryf.underlying23 (hval 1 23 v1 rfl rfl)
  obtain ⟨a2, n2, c2, rfl⟩ := okWide_slice Tryf.underlying24 (hval 2 24 v2 rfl rfl)
  have k0 := h0
  have k1 := h1
  have k2 := h2
  have lt0 : ∀ x ∈ p0, x.block < W.heap.size := by obtain ⟨m, hm⟩ := k0; exact DataW.trod_lt m _ _ _ hm
  have lt1 : ∀ x ∈ p1, x.block < W.heap.size := by obtain ⟨m, hm⟩ := k1; exact DataW.trod_lt m _ _ _ hm
  have lt2 : ∀ x ∈ p2, x.block < W.heap.size := by obtain ⟨m, hm⟩ := k2; exact DataW.trod_lt m _ _ _ hm
  obtain ⟨K, hK⟩ : ∃ K : Nat → ByteArray, Sl W a0 n0 (fun i => .string (K i)) ∧ n0 ≤ c0 ∧ c0 ≤ maxLen := by obtain ⟨fuel, hf⟩ := h0; exact open0 hf
  obtain ⟨Z, hZ⟩ : ∃ Z : Nat → List Int, Rws W a1 n1 (fun i => (Z i).map (Value.int .i64)) ∧ n1 ≤ c1 ∧ c1 ≤ maxLen := by obtain ⟨fuel, hf⟩ := h1; exact open1 hf
  obtain ⟨G, hG⟩ : ∃ G : Nat → List ByteArray, Rws W a2 n2 (fun i => strs (G i)) ∧ n2 ≤ c2 ∧ c2 ≤ maxLen := by obtain ⟨fuel, hf⟩ := h2; exact open2 hf
  obtain ⟨t, rfl, rfl, rfl, w3⟩ := open_string Tryf.underlying9 (hval 3 9 v3 rfl rfl) h3
  obtain ⟨s, rfl, rfl, rfl, w4⟩ := open_string Tryf.underlying9 (hval 4 9 v4 rfl rfl) h4
  clear hA0 hval0
  refine (ans_walk F.told a0 a1 a2 n0 n1 n2 c0 c1 c2 K Z G t s W hF hK hZ hG).mono fun e W' ⟨he, bel⟩ => ?_
  subst he
  exact ⟨_, rfl, _, _, _, [], _, [], hW', trodAll_mk1 (shut_bool Tryf.underlying4 _), (trodAll_cons_mk (Below.trod Tryf.laidOut (by kernel_rfl) (of_decide_eq_true (by kernel_rfl)) k0 bel lt0) (trodAll_cons_mk (Below.trod Tryf.laidOut (by kernel_rfl) (of_decide_eq_true (by kernel_rfl)) k1 bel lt1) (trodAll_cons_mk (Below.trod Tryf.laidOut (by kernel_rfl) (of_decide_eq_true (by kernel_rfl)) k2 bel lt2) (trodAll_cons_mk (shut_string Tryf.underlying9 w3) (trodAll_cons_mk (shut_string Tryf.underlying9 w4) trodAll_mk0))))), rfl, bel.frame _, fun h => by cases h⟩

theorem ansTold_holds : Rows.FnCheckAnswersByTheLineageToldSaid :=
  Claim7.holds_of_told_any 3 Tryf.f3 "fmt.errorf" [] [] _ _ _ (by kernel_rfl) rfl rfl rfl Tryf.laidOut (by kernel_rfl) rfl ⟨rfl, rfl, rfl, rfl, rfl, rfl, rfl⟩ rfl rfl (by kernel_rfl) (by kernel_rfl) Tryf.func3 (by kernel_rfl)
    (of_decide_eq_true (by kernel_rfl)) (of_decide_eq_true (by kernel_rfl)) Tryf.stops.symm rfl Tryf.stopKnobs.symm (by kernel_rfl)
    (by kernel_rfl) (by kernel_rfl) (by kernel_rfl) (by kernel_rfl) (by kernel_rfl) (by kernel_rfl) (by kernel_rfl) (by kernel_rfl) (by kernel_rfl) rfl (by kernel_rfl) rfl rfl
    rfl rfl
    rfl (by kernel_rfl) (by kernel_rfl) (by kernel_rfl) (by decide) (by kernel_rfl)
    (OpenClaim.moreEntering_of (by kernel_rfl) (by kernel_rfl) (by kernel_rfl) (by kernel_rfl) (by kernel_rfl) (by kernel_rfl) (by kernel_rfl) (by kernel_rfl) (by kernel_rfl) (by kernel_rfl))
    ⟨_, WideRow.started_initial, Tryf.quiet _⟩
    (fun os started _ H enc _ => ans_lifted os started H enc)
end Go.Proofs.Qxb6608620aFmt
