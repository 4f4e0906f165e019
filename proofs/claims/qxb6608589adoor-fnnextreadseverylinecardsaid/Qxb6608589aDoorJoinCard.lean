import Derived.Test.Qxb6608589aDoorLaid
import Derived.Test.Qxb6608589aDoorJoin
import Derived.Test.Qxb6608589aDoorTie
import Derived.Test.Qxb6608589aDoorCards
import Derived.OpenShut
import Derived.ShutString
import Derived.ChangeOld
import Derived.SevenTiedAt
namespace Go.Proofs.Qxb6608589aDoor
open Go.ChangeShapes Go.WideShapes Go.ChangeAt Go.RowKit
set_option linter.unusedVariables false

/-- WHAT THE WALK IS TOLD OF A SLICE OF INTEGERS THAT CAME IN: it is nil; or it leads to a row of 'cap' cells, the numbers 'zs' (the first 'len' are its elements, the rest its spare room), each fitting its kind. -/
def IsRow (k : IntKind) (w : World) (a : Option Addr) (len cap : Nat) (zs : List Int) : Prop :=
  (a = none ∧ len = 0 ∧ cap = 0 ∧ zs = []) ∨
  ∃ x, a = some x ∧ len ≤ cap ∧ cap ≤ maxLen ∧ zs.length = cap ∧ (∀ i, i < zs.length → w.cell? (x.add i) = some (.int k (zs.getD i 0))) ∧ ∀ n ∈ zs, (Lit.int k n).wf = true


theorem byte_bounds {n : Int} (h : (Lit.int .u8 n).wf = true) : 0 ≤ n ∧ n < 256 := by
  simp [Lit.wf, IntKind.min, IntKind.max, IntKind.signed, IntKind.bits] at h
  omega
theorem IsRow.parts {w : World} {a : Option Addr} {len cap : Nat} {zs : List Int} (h : IsRow .u8 w a len cap zs) :
    (zs.take len).length = len ∧ (a = none → len = 0 ∧ cap = 0) ∧ Lib.BytesIn w a len (zs.take len) ∧ Byt (zs.take len) ∧ len ≤ 9223372036854775807 := by
  rcases h with ⟨rfl, rfl, rfl, rfl⟩ | ⟨x, rfl, hl, hm, hz, hc, hw⟩
  · exact ⟨rfl, fun _ => ⟨rfl, rfl⟩, Lib.BytesIn.nil _ _ _, (fun x hx => by simp at hx), by omega⟩
  · refine ⟨by simp; omega, (fun h => by cases h), Lib.BytesIn.of_cells (fun i hi => ?_), fun x hx => byte_bounds (hw x (List.mem_of_mem_take hx)), by unfold maxLen at hm; omega⟩
    rw [hc i (by omega)]
    simp [hi]

theorem join_walk (a0 : Option Addr) (len0 cap0 : Nat) (z0 : List Int) (a1 : Option Addr) (len1 cap1 : Nat) (z1 : List Int) (a2 : Int) (aE aF : Addr) (w : World) (w0 : IsRow .u8 w a0 len0 cap0 z0) (w1 : IsRow .u8 w a1 len1 cap1 z1) (w2 : (Lit.int .i64 a2).wf = true) (hse : Sent w aE aF) :
    Calls Tryd.prog 5 #[.slice a0 len0 cap0, .slice a1 len1 cap1, .int .i64 a2] w fun e w' => e = .returned (.bool true) ∧ Below w.heap.size w w' := by
  obtain ⟨x1, x2, x3, x4, x5⟩ := w0.parts
  obtain ⟨y1, y2, y3, y4, y5⟩ := w1.parts
  have same : ∀ {e : Ending} {w' : World}, e = .returned (.bool true) ∧ w' = w → e = .returned (.bool true) ∧ Below w.heap.size w w' := fun h => ⟨h.1, by rw [h.2]; exact Below.refl _ _⟩
  by_cases hsum : len0 + len1 ≤ 1048576
  · by_cases hsz : 65536 < a2
    · exact (join_size a0 a1 len0 cap0 len1 cap1 a2 w hsum hsz).mono fun e w' h => same h
    · by_cases hz : len0 = 0
      · refine join_main a0 a1 len0 cap0 len1 cap1 (z0.take len0) (z1.take len1) a2 aE aF w hsum hsz x1 y1 x2 y2 x3 y3 x4 y4 hse (Or.inl hz) (Or.inl ?_)
        exact List.eq_nil_of_length_eq_zero (by omega)
      · obtain ⟨b, o, rfl, hc⟩ := x3.at (by omega)
        have hcl := hc (len0 - 1) (by omega)
        by_cases hx : (z0.take len0).getD (len0 - 1) 0 = 10
        · rw [hx] at hcl
          refine join_main _ a1 len0 cap0 len1 cap1 (z0.take len0) (z1.take len1) a2 aE aF w hsum hsz x1 y1 x2 y2 x3 y3 x4 y4 hse (Or.inr ⟨b, o, rfl, by omega, hcl⟩) (Or.inr ?_)
          rw [List.getLast?_eq_getElem?, x1]
          rw [List.getD_eq_getElem?_getD, List.getElem?_eq_getElem (by omega)] at hx
          rw [List.getElem?_eq_getElem (by omega)]
          simpa using hx
        · exact (join_open b o a1 len0 cap0 len1 cap1 _ a2 w hsum hsz (by omega) hcl (by simpa using hx)).mono fun e w' h => same h
  · exact (join_big a0 a1 len0 cap0 len1 cap1 a2 w x5 y5 (by omega)).mono fun e w' h => same h

set_option maxRecDepth 100000 in
theorem join_lifted (os : Os) (started : os.Started) (H : Type) (enc : TypeId × Value → H) :
    ReturnsInHanded {} Tryd.checked os 5 .any (fun w args => (Rows.fnNextReadsJoinedTextsPieceByPieceSpec.pre enc Tryd.prog Tryd.f5 [] false w args ∧ laidMetH Tryd.prog Rows.fnNextReadsJoinedTextsPieceByPieceRow.laid w) ∧ sizedMet enc Tryd.prog Tryd.f5 (OpenSpec.ofChange Rows.fnNextReadsJoinedTextsPieceByPieceSpec) false w args)
      (Rows.fnNextReadsJoinedTextsPieceByPieceSpec.post enc Tryd.prog Tryd.f5 false true false false) := by
  refine returnsInHanded_of_change_and (C := Tryd.checked) (X := fun w _ => laidMetH Tryd.prog Rows.fnNextReadsJoinedTextsPieceByPieceRow.laid w) (fun _ _ _ hh h => h.of_heap hh) Tryd.own started (by kernel_rfl) Tryd.func5
    (ChangeSpec.witness_shaped (enc := enc) (C := Tryd.checked) (os := os) (X := fun w _ => laidMetH Tryd.prog Rows.fnNextReadsJoinedTextsPieceByPieceRow.laid w) false (World.doorLaid Tryd.prog 90 os) #[.slice none 0 0, .slice none 0 0, .int .i64 0] 8 rfl (World.shaped_of_RefB (by kernel_rfl) (by kernel_rfl)) (by kernel_rfl) (by kernel_rfl) (by kernel_rfl) (door_met os _)) ?_
  intro W base args ds gs before hval0 hW _ _ hL _
  have hval : ∀ (j : Nat) t v, Tryd.f5.params[j]? = some t → args[j]? = some v → Value.okWide Tryd.prog W .any base t v := hval0
  have hW' := hW
  obtain ⟨p, q, hA0, hV, rfl, hfz, hnd⟩ := hW
  have hA : DataW.TrodAll enc Tryd.prog W 0 (fun _ => true) true Tryd.f5.params.toList args.toList ds p := hA0
  rw [Tryd.params5] at hA hval
  obtain ⟨v0, vs0, d0, ds0, p0, q0, hargs, rfl, rfl, h0, r0⟩ := trodAll_cons hA
  obtain ⟨v1, vs1, d1, ds1, p1, q1, rfl, rfl, rfl, h1, r1⟩ := trodAll_cons r0
  obtain ⟨v2, vs2, d2, ds2, p2, q2, rfl, rfl, rfl, h2, r2⟩ := trodAll_cons r1
  obtain ⟨rfl, rfl, rfl⟩ := trodAll_nil r2
  obtain rfl : args = #[v0, v1, v2] := by cases args; simp_all
  obtain ⟨rfl, rfl⟩ := trodVars_none hV
  obtain ⟨a0, len0, cap0, rfl⟩ := okWide_slice Tryd.underlying25 (hval 0 25 v0 rfl rfl)
  have k0 := h0
  have lt0 : ∀ x ∈ p0, x.block < W.heap.size := by obtain ⟨m, hm⟩ := k0; exact DataW.trod_lt m _ _ _ hm
  obtain ⟨z0, w0⟩ : ∃ zs, IsRow .u8 W a0 len0 cap0 zs := by
    obtain ⟨fuel, hf⟩ := h0
    rcases open_ints Tryd.underlying25 Tryd.underlying5 (by kernel_rfl) hf with ⟨hcs, _⟩ | ⟨x, l, c, zs, hcs, _, hl, hm, hz, _, hcell, hwz⟩
    · simp [Value.cells] at hcs
      obtain ⟨rfl, rfl, rfl⟩ := hcs
      exact ⟨[], .inl ⟨rfl, rfl, rfl, rfl⟩⟩
    · simp [Value.cells] at hcs
      obtain ⟨rfl, rfl, rfl⟩ := hcs
      exact ⟨zs, .inr ⟨_, rfl, hl, hm, by simpa using hz, hcell, hwz⟩⟩
  obtain ⟨a1, len1, cap1, rfl⟩ := okWide_slice Tryd.underlying25 (hval 1 25 v1 rfl rfl)
  have k1 := h1
  have lt1 : ∀ x ∈ p1, x.block < W.heap.size := by obtain ⟨m, hm⟩ := k1; exact DataW.trod_lt m _ _ _ hm
  obtain ⟨z1, w1⟩ : ∃ zs, IsRow .u8 W a1 len1 cap1 zs := by
    obtain ⟨fuel, hf⟩ := h1
    rcases open_ints Tryd.underlying25 Tryd.underlying5 (by kernel_rfl) hf with ⟨hcs, _⟩ | ⟨x, l, c, zs, hcs, _, hl, hm, hz, _, hcell, hwz⟩
    · simp [Value.cells] at hcs
      obtain ⟨rfl, rfl, rfl⟩ := hcs
      exact ⟨[], .inl ⟨rfl, rfl, rfl, rfl⟩⟩
    · simp [Value.cells] at hcs
      obtain ⟨rfl, rfl, rfl⟩ := hcs
      exact ⟨zs, .inr ⟨_, rfl, hl, hm, by simpa using hz, hcell, hwz⟩⟩
  obtain ⟨a2, rfl, rfl, rfl, w2⟩ := open_int Tryd.underlying3 (hval 2 3 v2 rfl rfl) h2
  clear hA0 hval0
  obtain ⟨aE, aF, hse⟩ := sent_of_laid hL
  refine (join_walk a0 len0 cap0 z0 a1 len1 cap1 z1 a2 aE aF W w0 w1 w2 hse).mono fun e W' ⟨he, bel⟩ => ?_
  subst he
  exact ⟨_, rfl, _, _, _, [], _, [], hW', trodAll_mk1 (shut_bool Tryd.underlying4 _), (trodAll_cons_mk (Below.trod Tryd.laidOut (by kernel_rfl) (of_decide_eq_true (by kernel_rfl)) k0 bel lt0) (trodAll_cons_mk (Below.trod Tryd.laidOut (by kernel_rfl) (of_decide_eq_true (by kernel_rfl)) k1 bel lt1) (trodAll_cons_mk (shut_int Tryd.underlying3 w2) trodAll_mk0))), rfl, bel.frame _, fun h => by cases h⟩

theorem join_holds : Rows.FnNextReadsJoinedTextsPieceByPieceSaid :=
  OpenClaim.holds_of_wide 5 Tryd.f5 rfl rfl rfl rfl rfl rfl rfl ⟨rfl, rfl, rfl, rfl, rfl⟩ rfl rfl rfl rfl rfl (by kernel_rfl) Tryd.func5 (by kernel_rfl)
    (of_decide_eq_true (by kernel_rfl)) (by unfold Func.isWrapper; first | (rw [if_pos (by decide +kernel)]; kernel_rfl) | (rw [if_neg (by decide +kernel)]; exact ⟨rfl, rfl⟩))
    (fun os started H enc _ => join_lifted os started H enc)

theorem joinedCard_holds : Rows.FnNextReadsJoinedTextsPieceByPieceCardSaid :=
  Claim7.holds_tied_plain_at .later [] [.called, .called, .called, .called] true Rows.fnNextReadsJoinedTextsPieceByPieceCard.stood.harness true
    join_holds (fun _ h => by cases h) (by kernel_rfl) (fun _ h => by cases h) fnNextReadsJoinedTextsPieceByPiece_row_tie rfl ⟨rfl, rfl⟩ (by kernel_rfl) rfl
    (fun f fn hf hfn => by
      obtain rfl : f = 5 := Option.some.inj ((show Tryd.prog.funcNamed Rows.fnNextReadsJoinedTextsPieceByPieceRow.func = some 5 by kernel_rfl).symm.trans hf) |>.symm
      obtain rfl : fn = Tryd.f5 := (Option.some.inj (Tryd.func5.symm.trans hfn)).symm
      exact ⟨by kernel_rfl, fun j t ht => by
        rw [Tryd.params5] at ht
        have h3 : t = 25 ∨ t = 3 := by
          rcases j with _ | _ | _ | j
          · left; simpa using ht.symm
          · left; simpa using ht.symm
          · right; simpa using ht.symm
          · simp at ht
        rcases h3 with rfl | rfl
        · exact (show Tryd.prog.wantsStandIn 25 = false by kernel_rfl)
        · exact (show Tryd.prog.wantsStandIn 3 = false by kernel_rfl)⟩)
    (by kernel_rfl)
end Go.Proofs.Qxb6608589aDoor
