import Derived.Test.Qxb6608620aFmtLine
namespace Go.Proofs.Qxb6608620aFmt
open Go.RowKit Go.Joins Go.Kit Go.Extern.Stop Go.Stop Go.Extern
set_option linter.unusedVariables false
set_option linter.unusedSimpArgs false

theorem info3 : (Tryf.prog.info? 3).map (fun i => (i.zero, i.size, i.bytes)) = some (some (.int .i64 0), 1, 8) := by kernel_rfl

/-- what a policy's lineage walk needs of the memory -/
structure Env (w : World) (t n bp bw ba p : Nat) (E : Nat → List Nat) (G : Nat → List ByteArray) (r a0 c : ByteArray) : Prop where
  e1 : ∃ pa pc, w.cell? ⟨t, 2, none⟩ = some (.slice pa n pc) ∧ Rws w pa n (fun i => nats (E i))
  e2 : w.cell? ⟨bp, 0, none⟩ = some (.pointer (some ⟨p, 0, none⟩))
  e3 : ∃ ga gc, w.cell? ⟨p, 2, none⟩ = some (.slice ga n gc) ∧ Rws w ga n (fun i => strs (G i))
  e4 : w.cell? ⟨bw, 0, none⟩ = some (.string r)
  e5 : w.cell? ⟨bw, 1, none⟩ = some (.string a0)
  e6 : w.cell? ⟨bw, 2, none⟩ = some (.string c)
theorem Env.keep {w wr : World} {t n bp bw ba p : Nat} {E : Nat → List Nat} {G : Nat → List ByteArray} {r a0 c : ByteArray} (h : Env w t n bp bw ba p E G r a0 c) {x : Bool} {ty : TypeId} (hK : Keep ba w wr) (hb : w.heap[ba]? = some (.cells #[.bool x] ty (0, 0))) : Env wr t n bp bw ba p E G r a0 c := by
  obtain ⟨pa, pc, h1, h2⟩ := h.e1
  obtain ⟨ga, gc, h3, h4⟩ := h.e3
  exact ⟨⟨pa, pc, cell_keep hK hb h1 (fun y hy => by cases hy), h2.keep hK hb (fun j _ => nb_nats _)⟩, cell_keep hK hb h.e2 (fun y hy => by cases hy), ⟨ga, gc, cell_keep hK hb h3 (fun y hy => by cases hy), h4.keep hK hb (fun j _ => nb_strs _)⟩,
    cell_keep hK hb h.e4 (fun y hy => by cases hy), cell_keep hK hb h.e5 (fun y hy => by cases hy), cell_keep hK hb h.e6 (fun y hy => by cases hy)⟩

/-- the sizes that the walk leans on -/
structure Fits (n : Nat) (E : Nat → List Nat) (G : Nat → List ByteArray) : Prop where
  f1 : n ≤ 2097152
  f2 : ∀ i, i < n → (E i).length ≤ 1048576 ∧ ∀ v ∈ E i, v < n
  f3 : ∀ i, i < n → (G i).length ≤ 1048576 ∧ ∀ x ∈ G i, x.size ≤ 1048576

theorem vis20 (F : Interp) (u t n bp bw ba p : Nat) (E : Nat → List Nat) (G : Nat → List ByteArray) (r a0 c : ByteArray) (w : World) (hF : F.answers w.tape) (hu : u < n) (hfit : Fits n E G) (hE : Env w t n bp bw ba p E G r a0 c) {x : Bool} (hb : w.heap[ba]? = some (.cells #[.bool x] 4 (0, 0))) :
    Calls Tryf.prog 20 #[.int .i64 (u : Int), .pointer (some ⟨bp, 0, none⟩), .pointer (some ⟨bw, 0, none⟩), .pointer (some ⟨ba, 0, none⟩)] w fun e w' =>
      e = .returned (.bool ((G u).any (cov1 (r, a0, c)))) ∧ Upd ba (.cells #[.bool ((G u).any (cov1 (r, a0, c)))] 4 (0, 0)) w w' := by
  obtain ⟨ga, gc, h3, h4⟩ := hE.e3
  exact clo20 F u n gc bp bw ba p ga G r a0 c x w hF hu hfit.f1 (hfit.f3 u hu) hE.e2 h3 h4 hE.e4 hE.e5 hE.e6 hb

/-- what the walk's loop keeps -/
structure Lp (w wr : World) (t n u0 bp bw ba p : Nat) (E : Nat → List Nat) (G : Nat → List ByteArray) (r a0 c : ByteArray) (v : Value) (S st : List Nat) (m : Nat) : Prop where
  stk : Stk wr (w.heap.size + 1) v st
  seen : SeenI wr w.heap.size S m
  keep : Keep ba w wr
  row : wr.heap[ba]? = some (.cells #[.bool false] 4 (0, 0))
  le : m + unseen n S ≤ n
  len : st.length + unseen n S * 1048576 ≤ 1 + n * 1048576

abbrev fn20 (bp bw ba : Nat) : Value := .func (.func 20) #[] #[.pointer (some ⟨bp, 0, none⟩), .pointer (some ⟨bw, 0, none⟩), .pointer (some ⟨ba, 0, none⟩)]

/-- how the lineage walk ends: ba holds whether some place that is met covers -/
def LineEnd (E : Nat → List Nat) (cov : Nat → Bool) (u0 ba : Nat) (w w' : World) : Prop := ∃ ans : Bool, (ans = true ↔ ∃ u, Reach E u0 u ∧ cov u = true) ∧ Upd ba (.cells #[.bool ans] 4 (0, 0)) w w'

theorem Rws.nat {w : World} {pa : Option Addr} {n : Nat} {E : Nat → List Nat} (h : Rws w pa n (fun i => nats (E i))) {i : Nat} (hi : i < n) : ∃ b o a' c', pa = some ⟨b, o, none⟩ ∧ w.cell? ⟨b, o + i, none⟩ = some (.slice a' (E i).length c') ∧ (E i).length ≤ c' ∧ c' ≤ maxLen ∧
    ∀ j, j < (E i).length → ∃ b' o', a' = some ⟨b', o', none⟩ ∧ w.cell? ⟨b', o' + j, none⟩ = some (.int .i64 (((E i).getD j 0 : Nat) : Int)) := by
  obtain ⟨b, o, v, ha, hc, a', c', rfl, q1, q2, q3⟩ := h i hi
  have e : (nats (E i)).length = (E i).length := len_nats _
  refine ⟨b, o, a', c', ha, ?_, by rw [← e]; exact q1, q2, fun j hj => ?_⟩
  · rw [← e]; exact hc
  · obtain ⟨b', o', e1, e2⟩ := q3 j (by show j < (nats (E i)).length; rw [e]; exact hj)
    exact ⟨b', o', e1, by rw [← nats_get hj]; exact e2⟩

/-- no row: one visit -/
theorem line_leaf (F : Interp) (u0 t n bp bw ba p : Nat) (E : Nat → List Nat) (G : Nat → List ByteArray) (r a0 c : ByteArray) (w : World) (hF : F.answers w.tape) (hu : u0 < n) (hfit : Fits n E G) (hE : Env w t n bp bw ba p E G r a0 c) (hb : w.heap[ba]? = some (.cells #[.bool false] 4 (0, 0))) (h0 : E u0 = []) :
    Calls Tryf.prog 19 #[.pointer (some ⟨t, 0, none⟩), .int .i64 (u0 : Int), fn20 bp bw ba] w fun e w' => e = .returned (.tuple #[]) ∧ LineEnd E (fun u => (G u).any (cov1 (r, a0, c))) u0 ba w w' := by
  have HF := hide hF
  have HE := hide hE
  have HB := hide hb
  have HT := hide hfit
  obtain ⟨pa, pc, h1, h2⟩ := hE.e1
  obtain ⟨b, o, a', c', ha, hc, q1, q2, q3⟩ := h2.nat hu
  rw [h0] at hc
  simp at hc
  subst ha
  have hn := hfit.f1
  have HR : Hid (∀ u, Reach E u0 u → u = u0) := fun u h => h (fun x => x = u0) rfl (fun x v ih hv => by rw [ih, h0] at hv; cases hv)
  clear hF hE hb h2 q3 q1 hfit
  go_enter Tryf.func19, Tryf.ntmps19
  go_wp2_with (first | (go_at_call 20; go_must (refine (vis20 F u0 t n bp bw ba p E G r a0 c _ (by exact HF.out) hu HT.out HE.out HB.out).mono ?_; rintro e w1 ⟨rfl, hU⟩; have HU := hide hU; clear hU)))
  go_returns
  exact ⟨rfl, _, ⟨fun h => ⟨u0, .refl, h⟩, fun ⟨u, h1, h2⟩ => by rw [HR.out u h1] at h2; exact h2⟩, HU.out⟩

theorem Lp.start {w : World} {t n u0 bp bw ba p : Nat} {E : Nat → List Nat} {G : Nat → List ByteArray} {r a0 c : ByteArray} (hb : w.heap[ba]? = some (.cells #[.bool false] 4 (0, 0))) :
    Lp w ((w.alloc (.map #[] 0)).alloc (.cells #[.int .i64 (u0 : Int)] 3)) t n u0 bp bw ba p E G r a0 c (.slice (some ⟨w.heap.size + 1, 0, none⟩) 1 1) [] [u0] 0 where
  stk := ⟨by simp, .inr ⟨w.heap.size + 1, 1, _, rfl, Nat.le_refl _, heap_alloc2_new w _ _, by simp, by unfold maxLen; omega, by simp, by simp⟩⟩
  seen := (SeenI.made w).at (Below.heap_alloc _ _ _ (by simp))
  keep := ((Keep.refl ba w).alloc _).alloc _
  row := heap_old (heap_old hb)
  le := by have := unseen_nil n; omega
  len := by
    have := Nat.mul_le_mul_right 1048576 (unseen_nil n)
    simp; omega

theorem stk_own {w : World} {B : Nat} {v : Value} {st : List Nat} (h : Stk w B v st) : ∀ k, v.ownBlock = some k → B ≤ k ∧ k < w.heap.size := World.ownsRow.lt h

/-- one append -/
theorem Lp.push {w wr w' : World} {t n u0 bp bw ba p : Nat} {E : Nat → List Nat} {G : Nat → List ByteArray} {r a0 c : ByteArray} {v v' : Value} {st : List Nat} {x : Nat} {o : Obj}
    (hs : Stk wr (w.heap.size + 1) v st) (hk : Keep ba w wr) (hr : wr.heap[ba]? = some o) (hba : ba < w.heap.size) (hg : (wr.alloc (.cells #[.int .i64 (x : Int)] 3)).grownBy w' v.ownBlock) (S : List Nat) (m : Nat) (hseen : SeenI wr w.heap.size S m) :
    Keep ba w w' ∧ w'.heap[ba]? = some o ∧ SeenI w' w.heap.size S m := by
  have hl := hseen.lt
  have key : ∀ k, k ≤ w.heap.size → k < wr.heap.size → w'.heap[k]? = wr.heap[k]? := fun k hk1 hk2 =>
    (hg.block k (by simp; omega) (fun e => by have := stk_own hs k e.symm; omega)).trans (Below.heap_alloc _ _ _ hk2)
  refine ⟨?_, (key ba (by omega) (lt_of hr)).trans hr, hseen.at (key _ (Nat.le_refl _) hl)⟩
  have h1 := hg.size
  refine ⟨hg.os.trans hk.os, hg.tape.trans hk.tape, hg.output.trans hk.output, by simp at h1; have := hk.size; omega, fun k hk1 hk2 => (key k (by omega) (Nat.lt_of_lt_of_le hk1 hk.size)).trans (hk.block k hk1 hk2)⟩

theorem unseen_empty (n : Nat) : unseen n [] = n := by simp [unseen]
theorem less_of {a b M l s : Nat} (h : a < b) (hl : l < M) : a * M + (s + l) < b * M + (s + 1) := by
  have := Nat.mul_le_mul_right M (show a + 1 ≤ b from h)
  rw [Nat.add_mul] at this
  omega

theorem snoc_of {st : List Nat} (h : st ≠ []) : ∃ s u, st = s ++ [u] := ⟨st.dropLast, st.getLast h, (List.dropLast_concat_getLast h).symm⟩

theorem drop_rev {l : List Nat} {j : Nat} (h : j < l.length) : (l.drop j).reverse = (l.drop (j + 1)).reverse ++ [l.getD j 0] := by
  rw [List.drop_eq_getElem_cons h, List.reverse_cons]
  simp [List.getD, h]

set_option maxRecDepth 100000 in
set_option maxHeartbeats 8000000 in
theorem line_walk (F : Interp) (u0 t n bp bw ba p : Nat) (E : Nat → List Nat) (G : Nat → List ByteArray) (r a0 c : ByteArray) (w : World) (hF : F.answers w.tape) (hu : u0 < n) (hfit : Fits n E G) (hE : Env w t n bp bw ba p E G r a0 c) (hb : w.heap[ba]? = some (.cells #[.bool false] 4 (0, 0))) (h0 : 0 < (E u0).length) :
    Calls Tryf.prog 19 #[.pointer (some ⟨t, 0, none⟩), .int .i64 (u0 : Int), fn20 bp bw ba] w fun e w' => e = .returned (.tuple #[]) ∧ LineEnd E (fun u => (G u).any (cov1 (r, a0, c))) u0 ba w w' := by
  have HF := hide hF
  have HE := hide hE
  have HB := hide hb
  have HT := hide hfit
  obtain ⟨i0, hi, hz0, hz1, hz2⟩ := info_parts info3
  have hba := lt_of hb
  obtain ⟨pa, pc, h1, h2⟩ := hE.e1
  have H2 := hide h2
  obtain ⟨b, o, a', c', ha, hc, q1, q2, q3⟩ := h2.nat hu
  have hn := hfit.f1
  have hlen0 := (hfit.f2 u0 hu).1
  have h0' : ((((E u0).length : Nat) : Int) == 0) = false := by simp; intro e; rw [e] at h0; simp at h0
  have hmm := @run_makeMap Tryf.prog
  subst ha
  have H1 := hide h1
  clear hF hE hb h2 q3 hfit
  go_enter Tryf.func19, Tryf.ntmps19
  go_wp2
  clear hmm h1 hc h0' h0
  obtain ⟨M, hM⟩ : ∃ M, M = 1048577 := ⟨_, rfl⟩
  have HM := hide hM
  clear hM
  go_loopg [7] (n * M + 1) (fun g v wr => ∃ S st m, Hid (Lp w wr t n u0 bp bw ba p E G r a0 c v S st m) ∧ Hid (Dfs E (fun u => (G u).any (cov1 (r, a0, c))) u0 n S st) ∧ g = unseen n S * M + st.length)
  case atStart =>
    exact ⟨[], [u0], 0, Lp.start HB.out, Dfs.start hu, by rw [unseen_empty]; rfl⟩
  case round =>
    obtain ⟨S, st, m, hLp, hDfs, hg⟩ := hrel
    have HG := hide hg
    clear hg
    by_cases hst : st = []
    · subst hst
      obtain ⟨a1, c1, rfl, k1, k2⟩ := hLp.out.stk.shape
      go_wp2
      go_returns
      refine ⟨rfl, false, ⟨(fun h => by cases h), fun ⟨u, g1, g2⟩ => ?_⟩, hLp.out.keep.toUpd hLp.out.row⟩
      exact absurd ((hDfs.out.done g1).symm.trans g2) (by simp)
    · obtain ⟨st, u, rfl⟩ := snoc_of hst
      obtain ⟨g1, c1, rfl, k0, k1, k2, k3, k4⟩ := hLp.out.stk.top
      have hun := (hDfs.out.todo u (by simp)).2
      have hlook := hLp.out.seen.look (x := u) (by omega)
      have hmx : c1 ≤ 9223372036854775807 := by unfold maxLen at k2; omega
      have K4 := hide k4
      clear k4 k0 hst
      cases hS : S.contains u with
      | true =>
        have hS' : u ∈ S := by simpa using hS
        have HSk := hide (hDfs.out.skip hS')
        rw [hS] at hlook
        clear hS hS'
        go_wp2
        go_roundg (unseen n S * M + st.length)
        case measure => rw [HG.out]; simp
        case rel =>
          have hl := hLp.out.len
          exact ⟨S, st, m, hide ⟨K4.out, hLp.out.seen, hLp.out.keep, hLp.out.row, hLp.out.le, by simp at hl; omega⟩, HSk, rfl⟩
      | false =>
        have hS' : u ∉ S := by simpa using hS
        have hus := unseen_lt hun hS'
        have hle := hLp.out.le
        have hln := hLp.out.len
        have hnk : n * 1048576 ≤ 2097152 * 1048576 := Nat.mul_le_mul_right _ hn
        rw [hS] at hlook
        obtain ⟨w1, hup, hseen1, hg1⟩ := hLp.out.seen.put (x := u) (by omega) (by omega)
        have HS1 := hide hseen1
        have HK1 : Hid (Keep ba w w1) := hLp.out.keep.grown hg1 (Nat.le_refl _)
        have HB1 : Hid (w1.heap[ba]? = some (.cells #[.bool false] 4 (0, 0))) := (hg1.block ba (lt_of hLp.out.row) (by intro e; injection e with e; omega)).trans hLp.out.row
        have HSt1 : Hid (Stk w1 (w.heap.size + 1) (.slice (some ⟨g1, 0, none⟩) st.length c1) st) := K4.out.at (fun k hk1 hk2 => hg1.block k hk2 (by intro e; injection e with e; omega))
        have HE1 : Hid (Env w1 t n bp bw ba p E G r a0 c) := HE.out.keep HK1.out HB.out
        obtain ⟨b2, o2, a2, c2, e2, hc2, l1, l2, l3⟩ := H2.out.nat hun
        injection e2 with e2
        injection e2 with e3 e4
        subst e3
        subst e4
        have HC2 := hide hc2
        have L3 := hide l3
        have hlu := (HT.out.f2 u hun).1
        have hEu := hide (HT.out.f2 u hun).2
        simp at hln
        clear hS hseen1 hg1 hc2 l3
        cases hcv : (G u).any (cov1 (r, a0, c)) with
        | true =>
          have HX : Hid (∃ u, Reach E u0 u ∧ (G u).any (cov1 (r, a0, c)) = true) := ⟨u, (hDfs.out.todo u (by simp)).1, hcv⟩
          have hCV := hide hcv
          clear hcv
          go_wp2_with (first | (go_at_call 20; go_must (refine (vis20 F u t n bp bw ba p E G r a0 c _ (by rw [HK1.out.tape]; exact HF.out) hun HT.out HE1.out HB1.out).mono ?_; rintro e w2 ⟨rfl, hU⟩; rw [hCV.out] at hU ⊢; have HU := hide hU; clear hU)))
          go_returns
          exact ⟨rfl, true, ⟨fun _ => HX.out, fun _ => rfl⟩, (HK1.out.upd HU.out).toUpd HU.out.row⟩
        | false =>
          have HD := hide (hDfs.out.visit hcv hEu.out)
          have hCV := hide hcv
          clear hcv
          go_wp2_with (first | (go_at_call 20; go_must (refine (vis20 F u t n bp bw ba p E G r a0 c _ (by rw [HK1.out.tape]; exact HF.out) hun HT.out HE1.out HB1.out).mono ?_; rintro e w2 ⟨rfl, hU⟩; rw [hCV.out] at hU ⊢; have HK2 : Hid (Keep ba w w2) := HK1.out.upd hU; have HB2 : Hid (w2.heap[ba]? = some (.cells #[.bool false] 4 (0, 0))) := hU.row; have HS2 : Hid (SeenI w2 w.heap.size (u :: S) (m + 1)) := HS1.out.at (hU.block _ HS1.out.lt (by omega)); have HSt2 : Hid (Stk w2 (w.heap.size + 1) (.slice (some ⟨g1, 0, none⟩) st.length c1) st) := HSt1.out.at (fun k hk1 hk2 => hU.block k hk2 (by omega)); have d1 := cell_keep HK2.out HB.out H1.out (fun y hy => by cases hy); have d2 := cell_keep HK2.out HB.out HC2.out (fun y hy => by cases hy); clear hU)))
          clear d1 d2
          go_loopg [7, 9] ((E u).length) (fun g v i wi => ∃ j : Nat, j ≤ (E u).length ∧ g = j ∧ i = .int .i64 ((j : Int) - 1) ∧ Hid (Stk wi (w.heap.size + 1) v (st ++ ((E u).drop j).reverse)) ∧ Hid (SeenI wi w.heap.size (u :: S) (m + 1)) ∧ Hid (Keep ba w wi) ∧ Hid (wi.heap[ba]? = some (.cells #[.bool false] 4 (0, 0))))
          case atStart => exact ⟨(E u).length, Nat.le_refl _, rfl, by go_num, by simpa using HSt2, HS2, HK2, HB2⟩
          case round =>
            obtain ⟨j, hj, hgj, rfl, hStk, hSee, hKee, hRow⟩ := hrel
            have HGJ := hide hgj
            clear hgj
            have x1 := cell_keep hKee.out HB.out H1.out (fun y hy => by cases hy)
            have x2 := cell_keep hKee.out HB.out HC2.out (fun y hy => by cases hy)
            cases j with
            | zero =>
              have HDR : Hid (((E u).drop 0).reverse = (E u).reverse) := by rw [List.drop_zero]; rfl
              clear x1 x2
              go_wp2
              go_roundg (unseen n (u :: S) * M + (st ++ (E u).reverse).length)
              case measure =>
                rw [HG.out, List.length_append, List.length_append]
                have := HM.out
                simp only [List.length_reverse, List.length_singleton]
                exact less_of hus (by omega)
              case rel =>
                refine ⟨u :: S, st ++ (E u).reverse, m + 1, hide ⟨by rw [← HDR.out]; exact hStk.out, hSee.out, hKee.out, hRow.out, by omega, ?_⟩, HD, rfl⟩
                simp only [List.length_append, List.length_reverse]
                omega
            | succ j =>
              obtain ⟨b3, o3, e5, hc3⟩ := L3.out j (by omega)
              have x3 := cell_keep hKee.out HB.out hc3 (fun y hy => by cases hy)
              obtain ⟨x, ex⟩ : ∃ x, x = (E u).getD j 0 := ⟨_, rfl⟩
              rw [← ex] at x3
              have EX := hide ex
              clear hc3 ex
              subst e5
              have hws : w.heap.size + 1 ≤ wr.heap.size := hSee.out.lt
              have HLN : Hid ((st ++ ((E u).drop (j + 1)).reverse).length ≤ st.length + 1048576) := by
                show _ ≤ _
                simp only [List.length_append, List.length_reverse, List.length_drop]
                omega
              go_wp2_with (first | (at_builtin; refine wpList_append_own_at _ rfl _ _ 42 rfl (w.heap.size + 1) 3 i0 (.int .i64 0) 1 8 Tryf.underlying42 hi hz0 hz1 hz2 rfl (by decide) _ _ _ rfl (World.ownsRow.alloc hStk.out _) ⟨wr.heap.size, 0, none⟩ 1 1 [.int .i64 (x : Int)] rfl rfl (cell_one_new _ _ _) (ints_oneCell .i64 [(x : Int)]) (by have := HLN.out; unfold maxLen; omega) (by have := HLN.out; omega) (by simp; omega) ?_; intro v' w3 hown hgrow hnil hloc; have HO := hide hown; have HGr := hide hgrow; clear hown hgrow hnil hloc))
              go_roundg j
              case measure => rw [HGJ.out]; omega
              case rel =>
                obtain ⟨y1, y2, y3⟩ := Lp.push (t := t) (n := n) (u0 := u0) (bp := bp) (bw := bw) (p := p) (E := E) (G := G) (r := r) (a0 := a0) (c := c) (v' := v') hStk.out hKee.out hRow.out hba HGr.out (u :: S) (m + 1) hSee.out
                refine ⟨j, by omega, rfl, by go_num, ?_, y3, y1, y2⟩
                have hj' : j < (E u).length := by omega
                show w3.ownsRow (w.heap.size + 1) 3 1 v' (st ++ ((E u).drop j).reverse).length (nats (st ++ ((E u).drop j).reverse))
                have e6 : st ++ ((E u).drop j).reverse = (st ++ ((E u).drop (j + 1)).reverse) ++ [x] := by rw [drop_rev hj', EX.out, List.append_assoc]
                rw [e6]
                have e7 : nats ((st ++ ((E u).drop (j + 1)).reverse) ++ [x]) = nats (st ++ ((E u).drop (j + 1)).reverse) ++ [.int .i64 (x : Int)] := by simp
                rw [e7, List.length_append]
                exact HO.out
end Go.Proofs.Qxb6608620aFmt
