import Derived.Test.Qxb6608618aFmtSmall
import Derived.Test.Qxb6608618aFmtFacts
import Derived.Stop.JoinedTold
import Derived.Stop.Texts
import Derived.Lib.IndexLaws
namespace Go.Proofs.Qxb6608618aFmt
attribute [local go_sem] Tryf.call20 Tryf.guard Tryf.fmt2 Tryf.fmt2r Tryf.op23_100 Tryf.op9_115 Tryf.op9_113
open Go.RowKit Go.Joins Go.Kit Go.Extern.Stop Go.Stop Go.Extern
set_option linter.unusedVariables false
set_option linter.unusedSimpArgs false

theorem empty_of {s : ByteArray} (h : (s.toList == []) = true) : s = ⟨#[]⟩ := by
  have h1 : s.toList = [] := by simpa using h
  rw [ByteArray.toList_eq] at h1
  obtain ⟨⟨x⟩⟩ := s
  simp at h1
  subst h1
  rfl
theorem tl_nil (x : ByteArray) : (x.toList == []) = (x.data.toList == []) := by rw [ByteArray.toList_eq]

/-- is it a row of digits? -/
def num (s : ByteArray) : Bool := !(s.toList == []) && s.data.toList.all isD

theorem is17 (s : ByteArray) (w : World) : Calls Tryf.prog 17 #[.string s] w fun e w' => e = .returned (.bool (num s)) ∧ Below w.heap.size w w' := by
  cases h0 : (s.toList == [])
  · have e : num s = s.data.toList.all isD := by simp [num, h0]
    rw [e]; clear e
    go_enter Tryf.func17, Tryf.ntmps17
    go_wp2_with (first | (go_at_call 21; go_must (refine (contains21 s _).mono ?_; rintro e w1 ⟨rfl, hb⟩)))
    go_ret
    exact ⟨ret_bool (by simp), hb⟩
  · have e : num s = false := by simp [num, h0]
    rw [e]; clear e
    go_enter Tryf.func17, Tryf.ntmps17
    go_wp2
    go_ret
    exact ⟨rfl, Below.refl _ _⟩

theorem num_of_val {s : ByteArray} {u : Nat} (h : val s = some u) : num s = true := by
  obtain ⟨h1, h2⟩ := val_digits h
  unfold num
  rw [tl_nil, h2]
  cases hh : s.data.toList with
  | nil => exact absurd hh h1
  | cons a b => rfl

/-- what 'number' answers -/
def ans (s : ByteArray) (mx : Int) : Option Nat := match val s with | some u => if (u : Int) ≤ mx then some u else none | none => none

def okOf : Lib.NumEnd Nat → Option Nat | .ok u => some u | _ => none
structure Errs (w : World) : Prop where
  e0 : ∃ te pe, w.cell? ⟨0, 0, none⟩ = some (.iface te pe)
  e1 : ∃ te pe, w.cell? ⟨1, 0, none⟩ = some (.iface te pe)
theorem Errs.later {w w' : World} (h : Errs w) (hb : Below w.heap.size w w') : Errs w' := by
  obtain ⟨t0, p0, h0⟩ := h.e0
  obtain ⟨t1, p1, h1⟩ := h.e1
  exact ⟨⟨t0, p0, cell_later hb h0⟩, ⟨t1, p1, cell_later hb h1⟩⟩

/-- strconv.ParseUint at 64 bits: a number and no error, or an error -/
theorem parse18 (s : ByteArray) (w : World) (hs : s.size ≤ 2097152) (hE : Errs w) :
    Calls Tryf.prog 18 #[.string s, .int .i64 10, .int .i64 64] w fun e w' => Below w.heap.size w w' ∧ ((∃ u, val s = some u ∧ e = .returned (.tuple #[.int .u64 u, .nilIface])) ∨ (val s = none ∧ ∃ (z : Int) (N : Nat), e = .returned (.tuple #[.int .u64 z, .iface 60 (.pointer (some ⟨N, 0, none⟩))]))) := by
  obtain ⟨t0, p0, h0⟩ := hE.e0
  obtain ⟨t1, p1, h1⟩ := hE.e1
  have hval : val s = okOf (Lib.parseUintB 64 s.data.toList) := rfl
  rcases hp : Lib.parseUintB 64 s.data.toList with u | _ | _
  · refine (Tryf.strconv_ParseUint_10_at64_ok s (by omega) u hp w).mono ?_
    rintro e w' ⟨rfl, hw⟩
    refine ⟨?_, .inl ⟨u, by rw [hval, hp]; rfl, rfl⟩⟩
    rcases hw with rfl | rfl
    · exact Below.refl _ _
    · exact below_bytesWorld _ w 5 s (Nat.le_refl _)
  · refine (Any.strconv_ParseUint_10_at64_syntax Tryf.laysPu14 s (by omega) hp _ w h0 (.inr ⟨_, _, rfl⟩)).mono ?_
    rintro e w' ⟨N, rfl, hN, hr, hb⟩
    exact ⟨hb, .inr ⟨by rw [hval, hp]; rfl, _, N, rfl⟩⟩
  · refine (Any.strconv_ParseUint_10_at64_range Tryf.laysPu14 s (by omega) hp _ w h1 (.inr ⟨_, _, rfl⟩)).mono ?_
    rintro e w' ⟨N, rfl, hN, hr, hb⟩
    exact ⟨hb, .inr ⟨by rw [hval, hp]; rfl, _, N, rfl⟩⟩

theorem ans_no_num {s : ByteArray} {mx : Int} (h : num s = false) : ans s mx = none := by
  unfold ans
  cases hv : val s with
  | none => rfl
  | some u => rw [num_of_val hv] at h; cases h

/-- number(s, max) -/
theorem num15 (s : ByteArray) (mx : Int) (w : World) (hs : s.size ≤ 2097152) (hE : Errs w) :
    Calls Tryf.prog 15 #[.string s, .int .u64 mx] w fun e w' => e = .returned (.tuple #[.int .u64 ((ans s mx).getD 0), .bool (ans s mx).isSome]) ∧ Below w.heap.size w w' := by
  have HE := hE
  cases hn : num s
  · rw [ans_no_num hn]
    go_enter Tryf.func15, Tryf.ntmps15
    go_wp2_with (first | (go_at_call 17; go_must (refine (is17 s _).mono ?_; rintro e w1 ⟨rfl, hb⟩; rw [hn])))
    go_ret2
    exact ⟨rfl, hb⟩
  · go_enter Tryf.func15, Tryf.ntmps15
    go_wp2_with (first
      | (go_at_call 17; go_must (refine (is17 s _).mono ?_; rintro e w1 ⟨rfl, hb⟩; rw [hn]; have hE1 := HE.later hb))
      | (go_at_call 18; go_must (refine (parse18 s _ hs hE1).mono ?_; rintro e w2 ⟨hb2, ⟨u, hv, rfl⟩ | ⟨hv, z, N, rfl⟩⟩)))
    all_goals go_ret2
    all_goals refine ⟨?_, hb.trans (hb2.mono hb.size)⟩
    all_goals first
      | (have e : ans s mx = some u := by simp only [ans, hv]; exact if_pos (by assumption)
         rw [e]; rfl)
      | (have e : ans s mx = none := by simp only [ans, hv]; exact if_neg (by omega)
         rw [e]; rfl)
      | (have e : ans s mx = none := by simp only [ans, hv]
         rw [e]; rfl)

/-- zzDecimal(s) -/
theorem dec_over (v d : Nat) (hv : v ≤ M64) (hd : d ≤ 9) : ((18446744073709551615 - (d : Int)) / 10 < (v : Int)) ↔ 18446744073709551615 < v * 10 + d := by
  have : M64 = 18446744073709551615 := rfl
  omega

/-- what the loop of zzDecimal holds behind k bytes -/
def DecRel (s : ByteArray) (k : Nat) (v : Nat) (over : Bool) : Prop :=
  v ≤ M64 ∧ (over = false → Lib.parseUintM M64 0 s.data.toList = Lib.parseUintM M64 v (s.data.toList.drop k)) ∧ (over = true → Lib.parseUintM M64 0 s.data.toList = .range)

theorem drop_at (s : ByteArray) (k : Nat) (h : k < s.size) : s.data.toList.drop k = s[k] :: s.data.toList.drop (k + 1) := by
  rw [List.drop_eq_getElem_cons (by simpa using h)]
  rfl

theorem val_of_M {s : ByteArray} {r : Lib.NumEnd Nat} (h0 : (s.toList == []) = false) (h : Lib.parseUintM M64 0 s.data.toList = r) : val s = okOf r := by
  subst h
  unfold val Lib.parseUintB okOf
  have : s.data.toList ≠ [] := by
    intro e
    rw [tl_nil, e] at h0
    cases h0
  rw [if_neg this]
  rfl

theorem dec_step {s : ByteArray} {k v : Nat} {over : Bool} (h : k < s.size) (hr : DecRel s k v over) (hd : isD s[k] = true) :
    (over = true → DecRel s (k + 1) v true) ∧
    (over = false → 18446744073709551615 < v * 10 + (s[k].toNat - 48) → DecRel s (k + 1) v true) ∧
    (over = false → ¬ 18446744073709551615 < v * 10 + (s[k].toNat - 48) → DecRel s (k + 1) (v * 10 + (s[k].toNat - 48)) false) := by
  obtain ⟨h1, h2, h3⟩ := hr
  simp [isD] at hd
  have hM : M64 = 18446744073709551615 := rfl
  refine ⟨fun e => ⟨h1, (fun h => by cases h), fun _ => h3 e⟩, fun e ho => ⟨h1, (fun h => by cases h), fun _ => ?_⟩, fun e ho => ⟨by omega, fun _ => ?_, fun h => by cases h⟩⟩
  · rw [h2 e, drop_at s k h, Lib.parseUintM, if_pos hd]
    by_cases hb : 1844674407370955162 ≤ v
    · rw [if_pos hb]
    · rw [if_neg hb, if_pos (by omega)]
  · rw [h2 e, drop_at s k h, Lib.parseUintM, if_pos hd, if_neg (by omega), if_neg (by omega)]

theorem dec_stray {s : ByteArray} {k v : Nat} {over : Bool} (h0 : (s.toList == []) = false) (h : k < s.size) (hr : DecRel s k v over) (hd : isD s[k] = false) : val s = none := by
  obtain ⟨h1, h2, h3⟩ := hr
  cases over with
  | true => rw [val_of_M h0 (h3 rfl)]; rfl
  | false =>
    have hn : ¬ (48 ≤ (s[k]).toNat ∧ (s[k]).toNat ≤ 57) := by
      intro e
      simp [isD, e.1, e.2] at hd
    have e := h2 rfl
    rw [drop_at s k h, Lib.parseUintM, if_neg hn] at e
    rw [val_of_M h0 e]; rfl

theorem dec_end {s : ByteArray} {k v : Nat} {over : Bool} (h0 : (s.toList == []) = false) (h : ¬ k < s.size) (hr : DecRel s k v over) : val s = if over then none else some v := by
  obtain ⟨h1, h2, h3⟩ := hr
  cases over with
  | true => rw [val_of_M h0 (h3 rfl)]; rfl
  | false =>
    have e := h2 rfl
    have hz : s.data.toList.length = s.size := by simp
    rw [List.drop_eq_nil_of_le (by omega), Lib.parseUintM] at e
    rw [val_of_M h0 e]
    rfl

theorem val_empty : val ⟨#[]⟩ = none := rfl

theorem dec13 (s : ByteArray) (w : World) (hs : s.size ≤ 2097152) :
    Calls Tryf.prog 13 #[.string s] w fun e w' => e = .returned (.tuple #[.int .u64 ((val s).getD 0), .bool (val s).isSome]) ∧ w' = w := by
  cases h0 : (s.toList == [])
  · have H0 := (show Hid _ from h0)
    go_enter Tryf.func13, Tryf.ntmps13
    go_wp2
    go_loop [4, 5, 6] (fun t o i => ∃ (k v : Nat) (b : Bool), k ≤ s.size ∧ i = .int .i64 k ∧ t = .int .u64 v ∧ o = .bool b ∧ DecRel s k v b) (fun _ _ i => s.size - (intOf i).toNat)
    case atStart => exact ⟨0, 0, false, Nat.zero_le _, rfl, rfl, rfl, by decide, (fun _ => rfl), fun h => by cases h⟩
    case round =>
      obtain ⟨k, v, b, hk, rfl, rfl, rfl, hr⟩ := hrel
      by_cases hlt : k < s.size
      · cases hd : isD s[k] with
        | false =>
          have HV := (show Hid _ from dec_stray h0 hlt hr hd)
          have hd2 : s[k].toNat < 48 ∨ 57 < s[k].toNat := by
            rcases Nat.lt_or_ge s[k].toNat 48 with h | h
            · exact .inl h
            · rcases Nat.lt_or_ge 57 s[k].toNat with h' | h'
              · exact .inr h'
              · simp [isD, h, h'] at hd
          clear hr hd
          rcases hd2 with hd2 | hd2
          · go_wp2
            go_ret2
            exact ⟨by rw [HV.out]; rfl, rfl⟩
          · have hd3 : ¬ s[k].toNat < 48 := by omega
            go_wp2
            go_ret2
            exact ⟨by rw [HV.out]; rfl, rfl⟩
        | true =>
          have HR := hide (dec_step hlt hr hd)
          have hv := hr.1
          have hM : M64 = 18446744073709551615 := rfl
          rw [hM] at hv
          simp [isD] at hd
          obtain ⟨d1, d2⟩ := hd
          clear hr hM
          cases b with
          | true =>
            go_wp2
            go_round
            case rel => exact ⟨k + 1, v, true, by omega, by go_num, rfl, rfl, HR.out.1 rfl⟩
            case measure => simp [intOf]; omega
          | false =>
            go_wp2
            all_goals refine ⟨?_, by simp [intOf]; omega⟩
            all_goals first
              | exact ⟨k + 1, v, true, by omega, congrArg (Value.int .i64) (by omega), rfl, rfl, HR.out.2.1 rfl (by omega)⟩
              | exact ⟨k + 1, v * 10 + (s[k].toNat - 48), false, by omega, congrArg (Value.int .i64) (by omega), congrArg (Value.int .u64) (by omega), rfl, HR.out.2.2 rfl (by omega)⟩
      · have HV := (show Hid _ from dec_end h0 hlt hr)
        clear hr
        cases b with
        | true =>
          go_wp2
          go_ret2
          exact ⟨by rw [HV.out]; rfl, rfl⟩
        | false =>
          go_wp2
          go_ret2
          exact ⟨by rw [HV.out]; rfl, rfl⟩
  · obtain rfl := empty_of h0
    rw [val_empty]
    go_enter Tryf.func13, Tryf.ntmps13
    go_wp2
    go_ret2
    exact ⟨rfl, rfl⟩

/-- internal stringslite.Cut at a blank -/
theorem cut25 (s : ByteArray) (w : World) (hs : s.size ≤ 2097152) :
    Calls Tryf.prog 25 #[.string s, .string ⟨#[32]⟩] w fun e w' => (∃ (A B : ByteArray) (c : Bool), B.size ≤ s.size ∧ e = .returned (.tuple #[.string A, .string B, .bool c])) ∧ ∃ q, w' = w.drewN q := by
  have hl := Lib.indexByte_ge s.data.toList 32
  obtain ⟨i, hi⟩ : ∃ i, i = Lib.indexByte s.data.toList 32 := ⟨_, rfl⟩
  by_cases h0 : 0 ≤ i
  · have h1 : i < s.size := by
      obtain ⟨o, ho⟩ : ∃ o : Nat, i = o := ⟨i.toNat, by omega⟩
      have := (List.getElem?_eq_some_iff.1 (Lib.indexByte_some (hi.symm.trans ho)).1).1
      rw [ho]
      simpa using this
    go_enter Tryf.func25, Tryf.ntmps25
    go_wp2_with (first | (go_at_call 33; go_must (refine (Tryf.stringslite_Index_one s 32 _).mono ?_; rintro e w' ⟨rfl, hw⟩; rw [hw, ← hi]; clear hw w')))
    go_quiet (fail)
    go_wp2
    go_ret3
    exact ⟨⟨_, _, _, by rw [ByteArray.size_extract]; omega, rfl⟩, nq, rfl⟩
  · go_enter Tryf.func25, Tryf.ntmps25
    go_wp2_with (first | (go_at_call 33; go_must (refine (Tryf.stringslite_Index_one s 32 _).mono ?_; rintro e w' ⟨rfl, hw⟩; rw [hw, ← hi]; clear hw w')))
    go_ret3
    exact ⟨⟨_, _, _, Nat.zero_le _, rfl⟩, 0, rfl⟩

theorem cut19 (s : ByteArray) (w : World) (hs : s.size ≤ 2097152) :
    Calls Tryf.prog 19 #[.string s, .string ⟨#[32]⟩] w fun e w' => (∃ (A B : ByteArray) (c : Bool), B.size ≤ s.size ∧ e = .returned (.tuple #[.string A, .string B, .bool c])) ∧ ∃ q, w' = w.drewN q := by
  go_enter Tryf.func19, Tryf.ntmps19
  go_wp2_with (first | (go_at_call 25; go_must (refine (cut25 s _ hs).mono ?_; rintro e w1 ⟨⟨A, B, c, hB, rfl⟩, hq⟩)))
  go_ret3
  exact ⟨⟨A, B, c, hB, rfl⟩, hq⟩

theorem told_text (F : Interp) (a b c : ByteArray) (mx : Int) (ha : a.size ≤ 2097152) (hb : b.size ≤ 2097152) (hc : c.size ≤ 2097152) (hw : (Lit.int .u64 mx).wf = true) :
    ((FmtStop.textOf (F.told "fmt.Sprintf" (reading a.data.toList b.data.toList c.data.toList mx) 0)).toList == []) = false := by
  have la : a.data.toList.length = a.size := by simp
  have lb : b.data.toList.length = b.size := by simp
  have lc : c.data.toList.length = c.size := by simp
  have h1 := FmtText.quote_length_le a.data.toList
  have h2 := FmtText.itoa_length_le hw
  have ht := told_string F (t_text a.data.toList b.data.toList c.data.toList mx (by omega) (by omega) (by omega) hw) (by simp [told4]; omega)
  rw [tl_nil, textOf_list, ht]
  simp [told4]

/-- noNumber(value, what, max): fmt's text told: it is not empty -/
theorem no16 (F : Interp) (v what : ByteArray) (mx : Int) (w : World) (hF : F.told.answers w.tape) (hv : v.size ≤ 2097152) (hwh : what.size ≤ 2097152) (hw : (Lit.int .u64 mx).wf = true) :
    Calls Tryf.prog 16 #[.string v, .string what, .int .u64 mx] w fun e w' => (∃ M : ByteArray, (M.toList == []) = false ∧ e = .returned (.string M)) ∧ Below w.heap.size w w' := by
  have HF := hide hF
  clear hF
  go_enter Tryf.func16, Tryf.ntmps16
  go_wp2_with (first | (go_at_call 19; go_must (refine (cut19 what _ hwh).mono ?_; rintro e w1 ⟨⟨A, B, c, hB, rfl⟩, q, hq⟩; have hF' := answers_open (F := F.told) (tape := w1.tape) (by rw [hq]; exact HF.out); have HB : Hid (Below w.heap.size w w1) := (by rw [hq]; exact ⟨rfl, rfl, rfl, Nat.le_refl _, fun _ _ => rfl⟩); clear hq)))
  go_ret
  exact ⟨⟨_, told_text F v B what mx hv (by omega) hwh hw, rfl⟩, ((HB.out.alloc HB.out.size _).drew)⟩
end Go.Proofs.Qxb6608618aFmt
