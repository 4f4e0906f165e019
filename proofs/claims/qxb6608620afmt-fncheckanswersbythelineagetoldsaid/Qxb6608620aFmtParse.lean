import Derived.Test.Qxb6608620aFmtStr
namespace Go.Proofs.Qxb6608620aFmt
open Go.RowKit Go.Joins Go.Kit Go.Extern.Stop Go.Stop Go.Extern
set_option linter.unusedVariables false
set_option linter.unusedSimpArgs false

theorem Tryf.call29 (args : Array Value) (w : World) : (callFunc 29 args).run Tryf.prog w = ((FmtStop.errorf #[9, 78] #[34] args).run Tryf.prog w).andThen fun v w' => .ok (.value v) w' :=
  run_callFunc_extern Tryf.func29 (by kernel_rfl) (by kernel_rfl) (by kernel_rfl) (by kernel_rfl) args w
theorem Tryf.guard (name : String) (w : World) : (FmtStop.guard name).run Tryf.prog w = .ok () w := by kernel_rfl
def Tryf.shape9 : List UInt8 := [12, 6, 0, 0, 0, 0, 0, 0, 0, 115, 116, 114, 105, 110, 103]
theorem Tryf.op9_113 (name : String) (x : ByteArray) (w : World) : (FmtStop.operand name false 113 false (.iface 9 (.string x))).run Tryf.prog w = .ok (Tryf.shape9, FmtStop.pack x.data.toList) w := by kernel_rfl
theorem Tryf.op9_113w (name : String) (x : ByteArray) (w : World) : (FmtStop.operand name true 113 false (.iface 9 (.string x))).run Tryf.prog w = .ok (Tryf.shape9, FmtStop.pack x.data.toList) w := by kernel_rfl
theorem Tryf.ptr83 (w : World) : (FmtStop.ptrTo "errors.errorString").run Tryf.prog w = .ok 83 w := by kernel_rfl
theorem Tryf.elem83 (w : World) : (elemOf 83).run Tryf.prog w = .ok 85 w := by kernel_rfl
attribute [local go_sem] Tryf.call29 Tryf.guard Tryf.op9_113 Tryf.op9_113w Tryf.ptr83 Tryf.elem83

/-- s cut at its first colon -/
def cutS (s : ByteArray) : ByteArray × ByteArray × Bool :=
  if 0 ≤ Lib.indexByte s.data.toList 58 then (s.extract 0 (Lib.indexByte s.data.toList 58).toNat, s.extract ((Lib.indexByte s.data.toList 58) + 1).toNat s.size, true) else (s, ⟨#[]⟩, false)

theorem cut34 (s : ByteArray) (w : World) (hs : s.size ≤ 2097152) :
    Calls Tryf.prog 34 #[.string s, .string ⟨#[58]⟩] w fun e w' => e = .returned (.tuple #[.string (cutS s).1, .string (cutS s).2.1, .bool (cutS s).2.2]) ∧ ∃ q, w' = w.drewN q := by
  unfold cutS
  have hl := Lib.indexByte_ge s.data.toList 58
  obtain ⟨i, hi⟩ : ∃ i, i = Lib.indexByte s.data.toList 58 := ⟨_, rfl⟩
  rw [← hi]
  by_cases h0 : 0 ≤ i
  · have h1 : i < s.size := by
      obtain ⟨o, ho⟩ : ∃ o : Nat, i = o := ⟨i.toNat, by omega⟩
      have := (List.getElem?_eq_some_iff.1 (Lib.indexByte_some (hi.symm.trans ho)).1).1
      rw [ho]
      simpa using this
    rw [if_pos h0]
    go_enter Tryf.func34, Tryf.ntmps34
    go_wp2_with (first | (go_at_call 35; go_must (refine (Tryf.stringslite_Index_one s 58 _).mono ?_; rintro e w' ⟨rfl, hw⟩; rw [hw, ← hi]; clear hw w')))
    go_quiet (fail)
    go_wp2
    go_ret3
    exact ⟨by rw [hi]; rfl, nq, rfl⟩
  · rw [if_neg h0]
    go_enter Tryf.func34, Tryf.ntmps34
    go_wp2_with (first | (go_at_call 35; go_must (refine (Tryf.stringslite_Index_one s 58 _).mono ?_; rintro e w' ⟨rfl, hw⟩; rw [hw, ← hi]; clear hw w')))
    go_ret3
    exact ⟨rfl, 0, rfl⟩

theorem cut28 (s : ByteArray) (w : World) (hs : s.size ≤ 2097152) :
    Calls Tryf.prog 28 #[.string s, .string ⟨#[58]⟩] w fun e w' => e = .returned (.tuple #[.string (cutS s).1, .string (cutS s).2.1, .bool (cutS s).2.2]) ∧ ∃ q, w' = w.drewN q := by
  go_enter Tryf.func28, Tryf.ntmps28
  go_wp2_with (first | (go_at_call 34; go_must (refine (cut34 s _ hs).mono ?_; rintro e w' ⟨rfl, q, hw⟩; rw [hw]; clear hw w')))
  go_ret3
  exact ⟨rfl, q, rfl⟩

theorem err1 (F : Interp) (f s : ByteArray) (b : Nat) (w : World) (hF : F.answers w.tape) (hp : FmtStop.printed? f 1 = some [(0, 113, false)]) (hf : ∀ w, (FmtDoors.printed f 1).run Tryf.prog w = .ok [(0, 113, false)] w)
    (hc0 : w.cell? ⟨b, 0, none⟩ = some (.iface 9 (.string s))) :
    Calls Tryf.prog 24 #[.string f, .slice (some ⟨b, 0, none⟩) 1 1] w fun e w' => ∃ T, e = .returned (.iface 83 (.pointer (some ⟨w.heap.size, 0, none⟩))) ∧ w' = (w.alloc (.cells #[.string T] 85)).drew := by
  have hF' := answers_open hF
  go_enter Tryf.func24, Tryf.ntmps24
  go_wp2
  go_ret
  exact ⟨_, rfl, rfl⟩

theorem err2 (F : Interp) (f s t : ByteArray) (b : Nat) (w : World) (hF : F.answers w.tape) (hp : FmtStop.printed? f 2 = some [(0, 113, false), (1, 113, false)]) (hf : ∀ w, (FmtDoors.printed f 2).run Tryf.prog w = .ok [(0, 113, false), (1, 113, false)] w)
    (hc0 : w.cell? ⟨b, 0, none⟩ = some (.iface 9 (.string s))) (hc1 : w.cell? ⟨b, 1, none⟩ = some (.iface 9 (.string t))) :
    Calls Tryf.prog 24 #[.string f, .slice (some ⟨b, 0, none⟩) 2 2] w fun e w' => ∃ T, e = .returned (.iface 83 (.pointer (some ⟨w.heap.size, 0, none⟩))) ∧ w' = (w.alloc (.cells #[.string T] 85)).drew := by
  have hF' := answers_open hF
  go_enter Tryf.func24, Tryf.ntmps24
  go_wp2
  go_ret
  exact ⟨_, rfl, rfl⟩

theorem cutS_size (s : ByteArray) : (cutS s).1.size ≤ s.size ∧ (cutS s).2.1.size ≤ s.size := by
  unfold cutS
  split
  · constructor
    · show (s.extract _ _).size ≤ s.size
      rw [ByteArray.size_extract]; omega
    · show (s.extract _ _).size ≤ s.size
      rw [ByteArray.size_extract]; omega
  · exact ⟨Nat.le_refl _, Nat.zero_le _⟩

/-- the segments of a grant or a permission -/
def segs (s : ByteArray) : Option (ByteArray × ByteArray × ByteArray × Bool) :=
  if (Lib.countByte s.data.toList 58 : Int) = 1 ∨ (Lib.countByte s.data.toList 58 : Int) = 2 then some ((cutS s).1, (cutS (cutS s).2.1).1, (cutS (cutS s).2.1).2.1, (cutS (cutS s).2.1).2.2) else none

theorem segs_size {s r a c : ByteArray} {b : Bool} (h : segs s = some (r, a, c, b)) : r.size ≤ s.size ∧ a.size ≤ s.size ∧ c.size ≤ s.size := by
  unfold segs at h
  split at h
  · simp only [Option.some.injEq, Prod.mk.injEq] at h
    obtain ⟨rfl, rfl, rfl, rfl⟩ := h
    have h1 := cutS_size s
    have h2 := cutS_size (cutS s).2.1
    omega
  · cases h

theorem seg_none (s : ByteArray) (w : World) (hs : s.size ≤ 2097152) (h : segs s = none) :
    Calls Tryf.prog 23 #[.string s] w fun e w' => e = .returned (.tuple #[.string ⟨#[]⟩, .string ⟨#[]⟩, .string ⟨#[]⟩, .bool false, .bool false]) ∧ w' = w := by
  unfold segs at h
  split at h
  · cases h
  · rename_i hn
    have h1 : ((Lib.countByte s.data.toList 58 : Int) != 1) = true := by simp; omega
    have h2 : ((Lib.countByte s.data.toList 58 : Int) != 2) = true := by simp; omega
    clear h hn
    go_enter Tryf.func23, Tryf.ntmps23
    go_wp2_with (first | (go_at_call 27; go_must (refine (Tryf.strings_Count_one s 58 _).mono ?_; rintro e w' ⟨rfl, hw⟩; rw [hw]; clear hw w')))
    go_returns
    exact ⟨rfl, rfl⟩

theorem seg_some (s r a c : ByteArray) (b : Bool) (w : World) (hs : s.size ≤ 2097152) (h : segs s = some (r, a, c, b)) :
    Calls Tryf.prog 23 #[.string s] w fun e w' => e = .returned (.tuple #[.string r, .string a, .string c, .bool b, .bool true]) ∧ ∃ q, w' = w.drewN q := by
  unfold segs at h
  split at h
  · rename_i hn
    simp only [Option.some.injEq, Prod.mk.injEq] at h
    obtain ⟨rfl, rfl, rfl, rfl⟩ := h
    have hz := (cutS_size s).2
    rcases hn with h1 | h1
    · have h2 : ((Lib.countByte s.data.toList 58 : Int) != 1) = false := by simp [h1]
      clear h1
      go_enter Tryf.func23, Tryf.ntmps23
      go_wp2_with (first | (go_at_call 27; go_must (refine (Tryf.strings_Count_one s 58 _).mono ?_; rintro e w' ⟨rfl, hw⟩; rw [hw]; clear hw w')) | (go_at_call 28; go_must (refine (cut28 _ _ (by omega)).mono ?_; rintro e w' ⟨rfl, q, hw⟩; rw [hw]; clear hw w')))
      go_returns
      exact ⟨rfl, _, rfl⟩
    · have h2 : ((Lib.countByte s.data.toList 58 : Int) != 1) = true := by simp; omega
      have h3 : ((Lib.countByte s.data.toList 58 : Int) != 2) = false := by simp [h1]
      clear h1
      go_enter Tryf.func23, Tryf.ntmps23
      go_wp2_with (first | (go_at_call 27; go_must (refine (Tryf.strings_Count_one s 58 _).mono ?_; rintro e w' ⟨rfl, hw⟩; rw [hw]; clear hw w')) | (go_at_call 28; go_must (refine (cut28 _ _ (by omega)).mono ?_; rintro e w' ⟨rfl, q, hw⟩; rw [hw]; clear hw w')))
      go_returns
      exact ⟨rfl, _, rfl⟩
  · cases h

abbrev P3 (r a c : ByteArray) : Value := .agg #[.string r, .string a, .string c]
/-- what a permission reads as -/
def permOf (s : ByteArray) : Option (ByteArray × ByteArray × ByteArray) := match segs s with
  | none => none
  | some (r, a, c, b) => if isNm r && isNm a && (!b || isNm c) then some (r, a, c) else none


theorem newc {W : World} {cs : Array Value} {t : TypeId} {k i : Nat} {v : Value} (hk : k = W.heap.size) (h : cs[i]? = some v) : (W.alloc (.cells cs t)).cell? ⟨k, i, none⟩ = some v := by
  subst hk
  rw [cell_of_row _ _ _ cs t (0, 0) (heap_alloc_new W _)]
  exact h
theorem size_drewN (w : World) (q : Nat) : (w.drewN q).heap.size = w.heap.size := rfl

theorem below_drewN {n : Nat} {w w' : World} (h : Below n w w') (q : Nat) : Below n w (w'.drewN q) := ⟨h.os, h.tape, h.output, h.size, h.block⟩

set_option maxHeartbeats 4000000 in
theorem perm_none (F : Interp) (s : ByteArray) (w : World) (hF : F.answers w.tape) (hs : s.size ≤ 2097152) (h : permOf s = none) :
    Calls Tryf.prog 17 #[.string s] w fun e w' => (∃ x, e = .returned (.tuple #[P3 ⟨#[]⟩ ⟨#[]⟩ ⟨#[]⟩, .iface 83 x])) ∧ Below w.heap.size w w' := by
  have HF := hide hF
  clear hF
  cases hg : segs s with
  | none =>
    clear h
    go_enter Tryf.func17, Tryf.ntmps17
    go_wp2_with (first | (go_at_call 23; go_must (refine (seg_none s _ hs hg).mono ?_; rintro e w' ⟨rfl, hw⟩; rw [hw]; clear hw w')) | (go_at_call 24; go_must (refine (err1 F _ s _ _ (by exact HF.out) (by kernel_rfl) (by intro w; kernel_rfl) (newc (by simp [size_drewN]) rfl)).mono ?_; rintro e w' ⟨T, rfl, hw⟩; rw [hw]; clear hw w')))
    go_returns
    refine ⟨⟨_, rfl⟩, ?_⟩
    repeat' (first | exact Below.refl _ _ | refine below_drewN ?_ _ | refine Below.drew ?_ | refine Below.alloc ?_ ?_ _ | refine Below.setCell ?_ ?_ _ | (simp [size_drewN]; done) | (simp [size_drewN]; omega))
  | some y =>
    obtain ⟨r, a, c, b⟩ := y
    obtain ⟨hr, ha, hc⟩ := segs_size hg
    have hh : (isNm r && isNm a && (!b || isNm c)) = false := by
      unfold permOf at h
      rw [hg] at h
      simpa using h
    clear h
    cases n1 : isNm r with
    | false =>
      clear hh
      go_enter Tryf.func17, Tryf.ntmps17
      go_wp2_with (first | (go_at_call 23; go_must (refine (seg_some s r a c b _ hs hg).mono ?_; rintro e w' ⟨rfl, q, hw⟩; rw [hw]; clear hw w')) | (go_at_call 25; go_must (refine (name25 _ _ (by omega)).mono ?_; rintro e w' ⟨rfl, hw⟩; rw [hw]; clear hw w')) | (go_at_call 24; go_must (refine (err2 F _ _ _ _ _ (by exact HF.out) (by kernel_rfl) (by intro w; kernel_rfl) (newc (by simp [size_drewN]) rfl) (newc (by simp [size_drewN]) rfl)).mono ?_; rintro e w' ⟨T, rfl, hw⟩; rw [hw]; clear hw w')))
      go_returns
      refine ⟨⟨_, rfl⟩, ?_⟩
      repeat' (first | exact Below.refl _ _ | refine below_drewN ?_ _ | refine Below.drew ?_ | refine Below.alloc ?_ ?_ _ | refine Below.setCell ?_ ?_ _ | (simp [size_drewN]; done) | (simp [size_drewN]; omega))
    | true =>
      cases n2 : isNm a with
      | false =>
        clear hh
        go_enter Tryf.func17, Tryf.ntmps17
        go_wp2_with (first | (go_at_call 23; go_must (refine (seg_some s r a c b _ hs hg).mono ?_; rintro e w' ⟨rfl, q, hw⟩; rw [hw]; clear hw w')) | (go_at_call 25; go_must (refine (name25 _ _ (by omega)).mono ?_; rintro e w' ⟨rfl, hw⟩; rw [hw]; clear hw w')) | (go_at_call 24; go_must (refine (err2 F _ _ _ _ _ (by exact HF.out) (by kernel_rfl) (by intro w; kernel_rfl) (newc (by simp [size_drewN]) rfl) (newc (by simp [size_drewN]) rfl)).mono ?_; rintro e w' ⟨T, rfl, hw⟩; rw [hw]; clear hw w')))
        go_returns
        refine ⟨⟨_, rfl⟩, ?_⟩
        repeat' (first | exact Below.refl _ _ | refine below_drewN ?_ _ | refine Below.drew ?_ | refine Below.alloc ?_ ?_ _ | refine Below.setCell ?_ ?_ _ | (simp [size_drewN]; done) | (simp [size_drewN]; omega))
      | true =>
        have hb : b = true ∧ isNm c = false := by simpa [n1, n2] using hh
        obtain ⟨rfl, n3⟩ := hb
        clear hh
        go_enter Tryf.func17, Tryf.ntmps17
        go_wp2_with (first | (go_at_call 23; go_must (refine (seg_some s r a c true _ hs hg).mono ?_; rintro e w' ⟨rfl, q, hw⟩; rw [hw]; clear hw w')) | (go_at_call 25; go_must (refine (name25 _ _ (by omega)).mono ?_; rintro e w' ⟨rfl, hw⟩; rw [hw]; clear hw w')) | (go_at_call 24; go_must (refine (err2 F _ _ _ _ _ (by exact HF.out) (by kernel_rfl) (by intro w; kernel_rfl) (newc (by simp [size_drewN]) rfl) (newc (by simp [size_drewN]) rfl)).mono ?_; rintro e w' ⟨T, rfl, hw⟩; rw [hw]; clear hw w')))
        go_returns
        refine ⟨⟨_, rfl⟩, ?_⟩
        repeat' (first | exact Below.refl _ _ | refine below_drewN ?_ _ | refine Below.drew ?_ | refine Below.alloc ?_ ?_ _ | refine Below.setCell ?_ ?_ _ | (simp [size_drewN]; done) | (simp [size_drewN]; omega))

set_option maxHeartbeats 4000000 in
theorem perm_some (s r a c : ByteArray) (w : World) (hs : s.size ≤ 2097152) (h : permOf s = some (r, a, c)) :
    Calls Tryf.prog 17 #[.string s] w fun e w' => e = .returned (.tuple #[P3 r a c, .nilIface]) ∧ Below w.heap.size w w' := by
  cases hg : segs s with
  | none =>
    unfold permOf at h
    rw [hg] at h
    cases h
  | some y =>
    obtain ⟨r', a', c', b⟩ := y
    obtain ⟨hr, ha, hc⟩ := segs_size hg
    unfold permOf at h
    rw [hg] at h
    simp only [] at h
    split at h
    · rename_i hh
      simp only [Option.some.injEq, Prod.mk.injEq] at h
      obtain ⟨rfl, rfl, rfl⟩ := h
      simp only [Bool.and_eq_true, Bool.or_eq_true, Bool.not_eq_true'] at hh
      obtain ⟨⟨n1, n2⟩, n3⟩ := hh
      cases b with
      | false =>
        clear n3
        go_enter Tryf.func17, Tryf.ntmps17
        go_wp2_with (first | (go_at_call 23; go_must (refine (seg_some s _ _ _ false _ hs hg).mono ?_; rintro e w' ⟨rfl, q, hw⟩; rw [hw]; clear hw w')) | (go_at_call 25; go_must (refine (name25 _ _ (by omega)).mono ?_; rintro e w' ⟨rfl, hw⟩; rw [hw]; clear hw w')))
        go_returns
        refine ⟨rfl, ?_⟩
        repeat' (first | exact Below.refl _ _ | refine below_drewN ?_ _ | refine Below.drew ?_ | refine Below.alloc ?_ ?_ _ | refine Below.setCell ?_ ?_ _ | (simp [size_drewN]; done) | (simp [size_drewN]; omega))
      | true =>
        have n4 : isNm c' = true := by simpa using n3
        clear n3
        go_enter Tryf.func17, Tryf.ntmps17
        go_wp2_with (first | (go_at_call 23; go_must (refine (seg_some s _ _ _ true _ hs hg).mono ?_; rintro e w' ⟨rfl, q, hw⟩; rw [hw]; clear hw w')) | (go_at_call 25; go_must (refine (name25 _ _ (by omega)).mono ?_; rintro e w' ⟨rfl, hw⟩; rw [hw]; clear hw w')))
        go_returns
        refine ⟨rfl, ?_⟩
        repeat' (first | exact Below.refl _ _ | refine below_drewN ?_ _ | refine Below.drew ?_ | refine Below.alloc ?_ ?_ _ | refine Below.setCell ?_ ?_ _ | (simp [size_drewN]; done) | (simp [size_drewN]; omega))
    · cases h

abbrev star : ByteArray := ⟨#[42]⟩
/-- is it the wildcard? -/
def isS (s : ByteArray) : Bool := s.toList == [42]
theorem star_of {s : ByteArray} (h : isS s = true) : s = star := by
  have h1 : s.toList = [42] := by simpa [isS] using h
  rw [ByteArray.toList_eq] at h1
  obtain ⟨⟨x⟩⟩ := s
  simp at h1
  subst h1
  rfl
theorem isS_star : isS star = true := by simp [isS, ByteArray.toList_eq]
theorem isNm_star : isNm star = false := by decide
/-- what a grant reads as -/
def grantOf (s : ByteArray) : Option (ByteArray × ByteArray × ByteArray) :=
  if isS s = true then some (star, star, ⟨#[]⟩) else match segs s with
  | none => none
  | some (r, a, c, b) => if (isS r || isNm r) && (isS a || isNm a) && !(isS r && isS a) && (!b || isNm c) then some (r, a, c) else none

theorem grant_star (w : World) : Calls Tryf.prog 13 #[.string star] w fun e w' => e = .returned (.tuple #[P3 star star ⟨#[]⟩, .nilIface]) ∧ Below w.heap.size w w' := by
  go_enter Tryf.func13, Tryf.ntmps13
  go_wp2
  go_returns
  refine ⟨rfl, ?_⟩
  repeat' (first | exact Below.refl _ _ | refine below_drewN ?_ _ | refine Below.drew ?_ | refine Below.alloc ?_ ?_ _ | refine Below.setCell ?_ ?_ _ | (simp [size_drewN]; done) | (simp [size_drewN]; omega))

set_option maxHeartbeats 4000000 in
theorem grant_none (F : Interp) (s : ByteArray) (w : World) (hF : F.answers w.tape) (hs : s.size ≤ 2097152) (h : grantOf s = none) :
    Calls Tryf.prog 13 #[.string s] w fun e w' => (∃ x, e = .returned (.tuple #[P3 ⟨#[]⟩ ⟨#[]⟩ ⟨#[]⟩, .iface 83 x])) ∧ Below w.heap.size w w' := by
  have HF := hide hF
  clear hF
  unfold grantOf at h
  split at h
  · cases h
  · rename_i hne'
    have hne : (s.toList == [42]) = false := by simpa [isS] using hne'
    clear hne'
    cases hg : segs s with
    | none =>
      clear h
      go_enter Tryf.func13, Tryf.ntmps13
      go_wp2_with (first | (go_at_call 23; go_must (refine (seg_none s _ hs hg).mono ?_; rintro e w' ⟨rfl, hw⟩; rw [hw]; clear hw w')) | (go_at_call 24; go_must (refine (err1 F _ s _ _ (by exact HF.out) (by kernel_rfl) (by intro w; kernel_rfl) (newc (by simp [size_drewN]) rfl)).mono ?_; rintro e w' ⟨T, rfl, hw⟩; rw [hw]; clear hw w')))
      go_returns
      refine ⟨⟨_, rfl⟩, ?_⟩
      repeat' (first | exact Below.refl _ _ | refine below_drewN ?_ _ | refine Below.drew ?_ | refine Below.alloc ?_ ?_ _ | refine Below.setCell ?_ ?_ _ | (simp [size_drewN]; done) | (simp [size_drewN]; omega))
    | some y =>
      obtain ⟨r, a, c, b⟩ := y
      obtain ⟨hr, ha, hc⟩ := segs_size hg
      have hh : ((isS r || isNm r) && (isS a || isNm a) && !(isS r && isS a) && (!b || isNm c)) = false := by
        rw [hg] at h
        simpa using h
      clear h
      cases s1 : isS r with
      | false =>
        have t1 : (r.toList == [42]) = false := s1
        cases n1 : isNm r with
        | false =>
          clear hh s1
          go_enter Tryf.func13, Tryf.ntmps13
          go_wp2_with (first | (go_at_call 23; go_must (refine (seg_some s r a c b _ hs hg).mono ?_; rintro e w' ⟨rfl, q, hw⟩; rw [hw]; clear hw w')) | (go_at_call 25; go_must (refine (name25 _ _ (by omega)).mono ?_; rintro e w' ⟨rfl, hw⟩; rw [hw]; clear hw w')) | (go_at_call 24; go_must (refine (err2 F _ _ _ _ _ (by exact HF.out) (by kernel_rfl) (by intro w; kernel_rfl) (newc (by simp [size_drewN]) rfl) (newc (by simp [size_drewN]) rfl)).mono ?_; rintro e w' ⟨T, rfl, hw⟩; rw [hw]; clear hw w')))
          go_returns
          refine ⟨⟨_, rfl⟩, ?_⟩
          repeat' (first | exact Below.refl _ _ | refine below_drewN ?_ _ | refine Below.drew ?_ | refine Below.alloc ?_ ?_ _ | refine Below.setCell ?_ ?_ _ | (simp [size_drewN]; done) | (simp [size_drewN]; omega))
        | true =>
          cases s2 : isS a with
          | false =>
            have t2 : (a.toList == [42]) = false := s2
            cases n2 : isNm a with
            | false =>
              clear hh s1 s2
              go_enter Tryf.func13, Tryf.ntmps13
              go_wp2_with (first | (go_at_call 23; go_must (refine (seg_some s r a c b _ hs hg).mono ?_; rintro e w' ⟨rfl, q, hw⟩; rw [hw]; clear hw w')) | (go_at_call 25; go_must (refine (name25 _ _ (by omega)).mono ?_; rintro e w' ⟨rfl, hw⟩; rw [hw]; clear hw w')) | (go_at_call 24; go_must (refine (err2 F _ _ _ _ _ (by exact HF.out) (by kernel_rfl) (by intro w; kernel_rfl) (newc (by simp [size_drewN]) rfl) (newc (by simp [size_drewN]) rfl)).mono ?_; rintro e w' ⟨T, rfl, hw⟩; rw [hw]; clear hw w')))
              go_returns
              refine ⟨⟨_, rfl⟩, ?_⟩
              repeat' (first | exact Below.refl _ _ | refine below_drewN ?_ _ | refine Below.drew ?_ | refine Below.alloc ?_ ?_ _ | refine Below.setCell ?_ ?_ _ | (simp [size_drewN]; done) | (simp [size_drewN]; omega))
            | true =>
              have hb : b = true ∧ isNm c = false := by simpa [n1, n2, s1, s2] using hh
              obtain ⟨rfl, n3⟩ := hb
              clear hh s1 s2
              go_enter Tryf.func13, Tryf.ntmps13
              go_wp2_with (first | (go_at_call 23; go_must (refine (seg_some s r a c true _ hs hg).mono ?_; rintro e w' ⟨rfl, q, hw⟩; rw [hw]; clear hw w')) | (go_at_call 25; go_must (refine (name25 _ _ (by omega)).mono ?_; rintro e w' ⟨rfl, hw⟩; rw [hw]; clear hw w')) | (go_at_call 24; go_must (refine (err2 F _ _ _ _ _ (by exact HF.out) (by kernel_rfl) (by intro w; kernel_rfl) (newc (by simp [size_drewN]) rfl) (newc (by simp [size_drewN]) rfl)).mono ?_; rintro e w' ⟨T, rfl, hw⟩; rw [hw]; clear hw w')))
              go_returns
              refine ⟨⟨_, rfl⟩, ?_⟩
              repeat' (first | exact Below.refl _ _ | refine below_drewN ?_ _ | refine Below.drew ?_ | refine Below.alloc ?_ ?_ _ | refine Below.setCell ?_ ?_ _ | (simp [size_drewN]; done) | (simp [size_drewN]; omega))
          | true =>
            have t2 : (a.toList == [42]) = true := s2
            have hb : b = true ∧ isNm c = false := by simpa [n1, s1, s2] using hh
            obtain ⟨rfl, n3⟩ := hb
            clear hh s1 s2
            go_enter Tryf.func13, Tryf.ntmps13
            go_wp2_with (first | (go_at_call 23; go_must (refine (seg_some s r a c true _ hs hg).mono ?_; rintro e w' ⟨rfl, q, hw⟩; rw [hw]; clear hw w')) | (go_at_call 25; go_must (refine (name25 _ _ (by omega)).mono ?_; rintro e w' ⟨rfl, hw⟩; rw [hw]; clear hw w')) | (go_at_call 24; go_must (refine (err2 F _ _ _ _ _ (by exact HF.out) (by kernel_rfl) (by intro w; kernel_rfl) (newc (by simp [size_drewN]) rfl) (newc (by simp [size_drewN]) rfl)).mono ?_; rintro e w' ⟨T, rfl, hw⟩; rw [hw]; clear hw w')))
            go_returns
            refine ⟨⟨_, rfl⟩, ?_⟩
            repeat' (first | exact Below.refl _ _ | refine below_drewN ?_ _ | refine Below.drew ?_ | refine Below.alloc ?_ ?_ _ | refine Below.setCell ?_ ?_ _ | (simp [size_drewN]; done) | (simp [size_drewN]; omega))
      | true =>
        have t1 : (r.toList == [42]) = true := s1
        cases s2 : isS a with
        | true =>
          have t2 : (a.toList == [42]) = true := s2
          clear hh s1 s2
          go_enter Tryf.func13, Tryf.ntmps13
          go_wp2_with (first | (go_at_call 23; go_must (refine (seg_some s r a c b _ hs hg).mono ?_; rintro e w' ⟨rfl, q, hw⟩; rw [hw]; clear hw w')) | (go_at_call 25; go_must (refine (name25 _ _ (by omega)).mono ?_; rintro e w' ⟨rfl, hw⟩; rw [hw]; clear hw w')) | (go_at_call 24; go_must (refine (err1 F _ s _ _ (by exact HF.out) (by kernel_rfl) (by intro w; kernel_rfl) (newc (by simp [size_drewN]) rfl)).mono ?_; rintro e w' ⟨T, rfl, hw⟩; rw [hw]; clear hw w')))
          go_returns
          refine ⟨⟨_, rfl⟩, ?_⟩
          repeat' (first | exact Below.refl _ _ | refine below_drewN ?_ _ | refine Below.drew ?_ | refine Below.alloc ?_ ?_ _ | refine Below.setCell ?_ ?_ _ | (simp [size_drewN]; done) | (simp [size_drewN]; omega))
        | false =>
          have t2 : (a.toList == [42]) = false := s2
          cases n2 : isNm a with
          | false =>
            clear hh s1 s2
            go_enter Tryf.func13, Tryf.ntmps13
            go_wp2_with (first | (go_at_call 23; go_must (refine (seg_some s r a c b _ hs hg).mono ?_; rintro e w' ⟨rfl, q, hw⟩; rw [hw]; clear hw w')) | (go_at_call 25; go_must (refine (name25 _ _ (by omega)).mono ?_; rintro e w' ⟨rfl, hw⟩; rw [hw]; clear hw w')) | (go_at_call 24; go_must (refine (err2 F _ _ _ _ _ (by exact HF.out) (by kernel_rfl) (by intro w; kernel_rfl) (newc (by simp [size_drewN]) rfl) (newc (by simp [size_drewN]) rfl)).mono ?_; rintro e w' ⟨T, rfl, hw⟩; rw [hw]; clear hw w')))
            go_returns
            refine ⟨⟨_, rfl⟩, ?_⟩
            repeat' (first | exact Below.refl _ _ | refine below_drewN ?_ _ | refine Below.drew ?_ | refine Below.alloc ?_ ?_ _ | refine Below.setCell ?_ ?_ _ | (simp [size_drewN]; done) | (simp [size_drewN]; omega))
          | true =>
            have hb : b = true ∧ isNm c = false := by simpa [n2, s1, s2] using hh
            obtain ⟨rfl, n3⟩ := hb
            clear hh s1 s2
            go_enter Tryf.func13, Tryf.ntmps13
            go_wp2_with (first | (go_at_call 23; go_must (refine (seg_some s r a c true _ hs hg).mono ?_; rintro e w' ⟨rfl, q, hw⟩; rw [hw]; clear hw w')) | (go_at_call 25; go_must (refine (name25 _ _ (by omega)).mono ?_; rintro e w' ⟨rfl, hw⟩; rw [hw]; clear hw w')) | (go_at_call 24; go_must (refine (err2 F _ _ _ _ _ (by exact HF.out) (by kernel_rfl) (by intro w; kernel_rfl) (newc (by simp [size_drewN]) rfl) (newc (by simp [size_drewN]) rfl)).mono ?_; rintro e w' ⟨T, rfl, hw⟩; rw [hw]; clear hw w')))
            go_returns
            refine ⟨⟨_, rfl⟩, ?_⟩
            repeat' (first | exact Below.refl _ _ | refine below_drewN ?_ _ | refine Below.drew ?_ | refine Below.alloc ?_ ?_ _ | refine Below.setCell ?_ ?_ _ | (simp [size_drewN]; done) | (simp [size_drewN]; omega))

set_option maxHeartbeats 4000000 in
theorem grant_some (s r a c : ByteArray) (w : World) (hs : s.size ≤ 2097152) (h : grantOf s = some (r, a, c)) :
    Calls Tryf.prog 13 #[.string s] w fun e w' => e = .returned (.tuple #[P3 r a c, .nilIface]) ∧ Below w.heap.size w w' := by
  unfold grantOf at h
  split at h
  · rename_i hS
    obtain rfl := star_of hS
    simp only [Option.some.injEq, Prod.mk.injEq] at h
    obtain ⟨rfl, rfl, rfl⟩ := h
    exact grant_star w
  · rename_i hne'
    have hne : (s.toList == [42]) = false := by simpa [isS] using hne'
    clear hne'
    cases hg : segs s with
    | none =>
      rw [hg] at h
      cases h
    | some y =>
      obtain ⟨r', a', c', b⟩ := y
      obtain ⟨hr, ha, hc⟩ := segs_size hg
      rw [hg] at h
      simp only [] at h
      split at h
      · rename_i hh
        simp only [Option.some.injEq, Prod.mk.injEq] at h
        obtain ⟨rfl, rfl, rfl⟩ := h
        simp only [Bool.and_eq_true, Bool.or_eq_true, Bool.not_eq_true'] at hh
        obtain ⟨⟨⟨k1, k2⟩, k3⟩, k4⟩ := hh
        have n3 : b = false ∨ b = true ∧ isNm c' = true := by cases b <;> simp_all
        clear k4
        cases s1 : isS r' with
        | true =>
          have s2 : isS a' = false := by simpa [s1] using k3
          have n2 : isNm a' = true := by simpa [s2] using k2
          have t1 : (r'.toList == [42]) = true := s1
          have t2 : (a'.toList == [42]) = false := s2
          clear s1 s2 k1 k2 k3
          rcases n3 with rfl | ⟨rfl, n3⟩
          · skip
            go_enter Tryf.func13, Tryf.ntmps13
            go_wp2_with (first | (go_at_call 23; go_must (refine (seg_some s _ _ _ false _ hs hg).mono ?_; rintro e w' ⟨rfl, q, hw⟩; rw [hw]; clear hw w')) | (go_at_call 25; go_must (refine (name25 _ _ (by omega)).mono ?_; rintro e w' ⟨rfl, hw⟩; rw [hw]; clear hw w')))
            go_returns
            refine ⟨rfl, ?_⟩
            repeat' (first | exact Below.refl _ _ | refine below_drewN ?_ _ | refine Below.drew ?_ | refine Below.alloc ?_ ?_ _ | refine Below.setCell ?_ ?_ _ | (simp [size_drewN]; done) | (simp [size_drewN]; omega))
          · skip
            go_enter Tryf.func13, Tryf.ntmps13
            go_wp2_with (first | (go_at_call 23; go_must (refine (seg_some s _ _ _ true _ hs hg).mono ?_; rintro e w' ⟨rfl, q, hw⟩; rw [hw]; clear hw w')) | (go_at_call 25; go_must (refine (name25 _ _ (by omega)).mono ?_; rintro e w' ⟨rfl, hw⟩; rw [hw]; clear hw w')))
            go_returns
            refine ⟨rfl, ?_⟩
            repeat' (first | exact Below.refl _ _ | refine below_drewN ?_ _ | refine Below.drew ?_ | refine Below.alloc ?_ ?_ _ | refine Below.setCell ?_ ?_ _ | (simp [size_drewN]; done) | (simp [size_drewN]; omega))
        | false =>
          have t1 : (r'.toList == [42]) = false := s1
          have n1 : isNm r' = true := by simpa [s1] using k1
          cases s2 : isS a' with
          | true =>
            have t2 : (a'.toList == [42]) = true := s2
            clear s1 s2 k1 k2 k3
            rcases n3 with rfl | ⟨rfl, n3⟩
            · skip
              go_enter Tryf.func13, Tryf.ntmps13
              go_wp2_with (first | (go_at_call 23; go_must (refine (seg_some s _ _ _ false _ hs hg).mono ?_; rintro e w' ⟨rfl, q, hw⟩; rw [hw]; clear hw w')) | (go_at_call 25; go_must (refine (name25 _ _ (by omega)).mono ?_; rintro e w' ⟨rfl, hw⟩; rw [hw]; clear hw w')))
              go_returns
              refine ⟨rfl, ?_⟩
              repeat' (first | exact Below.refl _ _ | refine below_drewN ?_ _ | refine Below.drew ?_ | refine Below.alloc ?_ ?_ _ | refine Below.setCell ?_ ?_ _ | (simp [size_drewN]; done) | (simp [size_drewN]; omega))
            · skip
              go_enter Tryf.func13, Tryf.ntmps13
              go_wp2_with (first | (go_at_call 23; go_must (refine (seg_some s _ _ _ true _ hs hg).mono ?_; rintro e w' ⟨rfl, q, hw⟩; rw [hw]; clear hw w')) | (go_at_call 25; go_must (refine (name25 _ _ (by omega)).mono ?_; rintro e w' ⟨rfl, hw⟩; rw [hw]; clear hw w')))
              go_returns
              refine ⟨rfl, ?_⟩
              repeat' (first | exact Below.refl _ _ | refine below_drewN ?_ _ | refine Below.drew ?_ | refine Below.alloc ?_ ?_ _ | refine Below.setCell ?_ ?_ _ | (simp [size_drewN]; done) | (simp [size_drewN]; omega))
          | false =>
            have t2 : (a'.toList == [42]) = false := s2
            have n2 : isNm a' = true := by simpa [s2] using k2
            clear s1 s2 k1 k2 k3
            rcases n3 with rfl | ⟨rfl, n3⟩
            · skip
              go_enter Tryf.func13, Tryf.ntmps13
              go_wp2_with (first | (go_at_call 23; go_must (refine (seg_some s _ _ _ false _ hs hg).mono ?_; rintro e w' ⟨rfl, q, hw⟩; rw [hw]; clear hw w')) | (go_at_call 25; go_must (refine (name25 _ _ (by omega)).mono ?_; rintro e w' ⟨rfl, hw⟩; rw [hw]; clear hw w')))
              go_returns
              refine ⟨rfl, ?_⟩
              repeat' (first | exact Below.refl _ _ | refine below_drewN ?_ _ | refine Below.drew ?_ | refine Below.alloc ?_ ?_ _ | refine Below.setCell ?_ ?_ _ | (simp [size_drewN]; done) | (simp [size_drewN]; omega))
            · skip
              go_enter Tryf.func13, Tryf.ntmps13
              go_wp2_with (first | (go_at_call 23; go_must (refine (seg_some s _ _ _ true _ hs hg).mono ?_; rintro e w' ⟨rfl, q, hw⟩; rw [hw]; clear hw w')) | (go_at_call 25; go_must (refine (name25 _ _ (by omega)).mono ?_; rintro e w' ⟨rfl, hw⟩; rw [hw]; clear hw w')))
              go_returns
              refine ⟨rfl, ?_⟩
              repeat' (first | exact Below.refl _ _ | refine below_drewN ?_ _ | refine Below.drew ?_ | refine Below.alloc ?_ ?_ _ | refine Below.setCell ?_ ?_ _ | (simp [size_drewN]; done) | (simp [size_drewN]; omega))
      · cases h
end Go.Proofs.Qxb6608620aFmt
