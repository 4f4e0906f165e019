import Derived.Test.Qxb6608620aFmtPol
import Derived.Test.Qxb6608620aFmtCheck
import Derived.Test.Qxb6608620aFmtBytes5
import Derived.Test.Qxb6608620aFmtGrown
import Derived.Test.Qxb6608620aFmtBfs
import Derived.Test.Qxb6608620aFmtGc
namespace Go.Proofs.Qxb6608620aFmt
open Go.RowKit Go.Joins Go.Kit Go.Extern.Stop Go.Stop Go.Extern
set_option linter.unusedVariables false
set_option linter.unusedSimpArgs false

set_option maxRecDepth 100000 in
set_option maxHeartbeats 32000000 in
theorem ans_main (F : Interp) (a a2 a3 : Option Addr) (n c c2 c3 : Nat) (K : Nat → ByteArray) (Z : Nat → List Int) (G : Nat → List ByteArray) (i0 : Nat) (p : ByteArray) (w : World) (hF : F.answers w.tape)
    (hr : Sl w a n (fun i => .string (K i))) (hr2 : Rws w a2 n (fun i => (Z i).map (Value.int .i64))) (hr3 : Rws w a3 n (fun i => strs (G i))) (hn : n ≤ 65536) (ht0 : (K i0).size ≤ 65536) (hp0 : p.size ≤ 65536) (hi0 : i0 < n) (r a0 c0 : ByteArray) (hq : permOf p = some (r, a0, c0)) :
    Calls Tryf.prog 3 #[.slice a n c, .slice a2 n c2, .slice a3 n c3, .string (K i0), .string p] w fun e w' => e = .returned (.bool true) ∧ Below w.heap.size w w' := by
  have HR := hide hr
  have HR2 := hide hr2
  have HR3 := hide hr3
  have HF := hide hF
  clear hr hr2 hr3 hF
  have d1 : ¬ ((65536 : Int) < (n : Int)) := by omega
  have d2 : ¬ ((65536 : Int) < (p.size : Int)) := by omega
  have d3 : ¬ ((65536 : Int) < ((K i0).size : Int)) := by omega
  obtain ⟨hgo, t1, t2⟩ := grant_of_perm hq
  have HQ := hide hq
  have HGo := hide hgo
  have u1 : (r.toList == [42]) = false := t1
  have u2 : (a0.toList == [42]) = false := t2
  clear hq hgo t1 t2
  go_enter Tryf.func3, Tryf.ntmps3
  go_wp2_with (first | (go_at_call 5; go_must (refine (bytes5 a n c K a2 n c2 _ a3 n c3 G (K i0) p _ HR.out HR2.out HR3.out).mono ?_; rintro e w' ⟨(rfl | ⟨rfl, hS, ht, hp⟩), hw⟩ <;> rw [hw] <;> clear hw w')) | (go_at_call 8; go_must (refine (strs8 a n c K _ _ hS.b1 hS.bk (by omega) (by omega) HR.out).mono ?_; rintro e w' ⟨⟨r8, r8a, r8b, rfl⟩, hw⟩; rw [hw]; clear hw w')) | (go_at_call 7; go_must (refine (ints7 a2 n c2 _ r8 _ hS.b2 r8a r8b HR2.out).mono ?_; rintro e w' ⟨⟨r7, r7a, r7b, rfl⟩, hw⟩; rw [hw]; clear hw w')) | (go_at_call 6; go_must (refine (rows6 a3 n c3 G r7 _ hS.b3 (fun i hi => (hS.bg i hi).1) (fun i hi => (hS.bg i hi).2) r7a r7b HR3.out).mono ?_; rintro e w' ⟨⟨r6, r6a, r6b, rfl⟩, hw⟩; rw [hw]; clear hw w'; by_cases d7 : (1048576 : Int) < r6)) | (go_at_call 9; go_must (refine (keys9 a n c K _ hS.b1 hS.bk HR.out).mono ?_; rintro e w1 ⟨(rfl | ⟨rfl, hAp⟩), hb⟩ <;> (have HB1 := hide hb; clear hb))) | (go_at_call 10; go_must (refine (fit10 a2 n c2 n Z _ hS.b2 hS.b1 (fun i hi => by have := hS.bx i hi; simpa using this) (HR2.out.later HB1.out (Nat.le_refl _))).mono ?_; rintro e w' ⟨(rfl | ⟨rfl, hfit⟩), hw⟩ <;> rw [hw] <;> clear hw w')) | (go_at_call 11; go_must (refine (pol11 a a2 a3 n c c2 c3 K (EZ Z) G _ (by omega) (fun j hj => by have := hS.bk j hj; omega) hAp (fun j hj => by rw [len_EZ]; have := hS.bx j hj; simpa using this) (fun j hj => (hS.bg j hj).1) (HR.out.later HB1.out (Nat.le_refl _)) ((Rws.nats HR2.out hfit).later HB1.out (Nat.le_refl _)) (HR3.out.later HB1.out (Nat.le_refl _))).mono ?_; rintro e w4 ⟨⟨pp, hP1, rfl⟩, hb⟩; have HP1 := hide hP1; have HB4 : Hid (Below w.heap.size w w4) := Below.next HB1.out hb HB1.out.size; have HT4 : Hid (F.answers w4.tape) := (by rw [HB4.out.tape]; exact HF.out); clear hP1 hb)) | (go_at_call 12; go_must (refine (chk_ok F _ n K (EZ Z) G i0 p r a0 c0 _ HT4.out HP1.out ⟨by omega, fun j hj => ⟨by rw [len_EZ]; have := hS.bx j hj; simpa using this, EZ_lt hfit j hj⟩, hS.bg⟩ (by omega) hi0 (by have := hS.bk i0 hi0; omega) HQ.out).mono ?_; rintro e w6 ⟨⟨ans, hans, rfl⟩, hb⟩; have HB6 : Hid (Below w.heap.size w w6) := Below.next HB4.out hb HB4.out.size; have HT6 : Hid (F.answers w6.tape) := (by rw [HB6.out.tape]; exact HF.out); clear hb)) | (go_at_call 13; go_must (refine (grant_some p r a0 c0 _ (by omega) HGo.out).mono ?_; rintro e w7 ⟨rfl, hb⟩; have HB7 : Hid (Below w.heap.size w w7) := Below.next HB6.out hb HB6.out.size; have HT7 : Hid (F.answers w7.tape) := (by rw [HB7.out.tape]; exact HF.out); clear hb)))
  all_goals first | (go_ret; exact ⟨rfl, Below.refl _ _⟩) | (go_ret; exact ⟨rfl, HB1.out⟩) | (go_ret; exact ⟨rfl, HB7.out.alloc HB7.out.size _⟩) | skip
  have HFit := hide hfit
  have HS := hide hS
  have HAp := hide hAp
  clear hfit hS hAp
  generalize hW : w7.alloc (.cells #[.string r, .string a0, .string c0] 38) = W
  have HBW : Hid (Below w.heap.size w W) := by rw [← hW]; exact HB7.out.alloc HB7.out.size _
  have HWant : Hid (W.heap[w7.heap.size]? = some (.cells #[.string r, .string a0, .string c0] 38 (0, 0))) := by rw [← hW]; exact heap_new _ _
  have HTW : Hid (F.answers W.tape) := by rw [HBW.out.tape]; exact HF.out
  clear hW
  have HRa : Hid (Sl W a n (fun i => .string (K i))) := HR.out.later HBW.out (Nat.le_refl _)
  have HRp : Hid (Rws W a2 n (fun i => nats (EZ Z i))) := (Rws.nats HR2.out HFit.out).later HBW.out (Nat.le_refl _)
  have HRg : Hid (Rws W a3 n (fun i => strs (G i))) := HR3.out.later HBW.out (Nat.le_refl _)
  have hEl := hide (EZ_lt HFit.out)
  have lE : Hid (∀ j, j < n → (EZ Z j).length ≤ 1048576) := fun j hj => by rw [len_EZ]; have := HS.out.bx j hj; simpa using this
  have lG := hide HS.out.bg
  clear HR HR2 HR3 HP1 HB1 HB4 HB6 HB7 HT4 HT6 HT7
  go_loop [17, 18] (fun t j => ∃ k : Nat, k ≤ i0 ∧ j = .int .i64 k ∧ t = .int .i64 (-1)) (fun _ j => n - (intOf j).toNat)
  case atStart => exact ⟨0, Nat.zero_le _, rfl, rfl⟩
  case round =>
    obtain ⟨k, hk, rfl, rfl⟩ := hrel
    have hkn : k < n := by omega
    obtain ⟨b, o, ha, hc⟩ := HRa.out k hkn
    by_cases hlt : k < i0
    · have t3 : ((K k).toList == (K i0).toList) = false := eqS_ne (HAp.out k i0 hlt hi0)
      subst ha
      go_wp2
      go_round
      case rel => exact ⟨k + 1, by omega, by go_num, rfl⟩
      case measure => simp [intOf]; omega
    · have hki : k = i0 := by omega
      subst hki
      subst ha
      have hm41 : ∀ w : World, (Instr.makeSlice 41 (.int .i64 (n : Int)) (.int .i64 (n : Int))).run Tryf.prog w = .ok (.slice (some ⟨w.heap.size, 0, none⟩) n n) (w.alloc (.cells (bools n []) 4)) := fun w => by rw [bools_nil]; exact mk41 n (by omega) w
      have hm42 := mk42q n (by omega)
      have h00 := bools_get (Q := []) hkn
      have h0t : ¬ ((k : Int) < 0) := by omega
      clear hlt hk
      go_upto_region 26 with (fail)
      clear hm41 hm42 h00
      generalize hWq : (W.alloc (.cells ((bools n []).setIfInBounds k (.bool true)) 4)).alloc (.cells (Array.replicate n (.int .i64 0)) 3) = Wq
      have HRw : Hid (Wq.heap[W.heap.size]? = some (.cells (bools n [k]) 4 (0, 0))) := by rw [← hWq, bools_set hkn]; exact heap_old (heap_new _ _)
      have HSt : Hid (Stk Wq (W.heap.size + 1) (.slice (some ⟨W.heap.size + 1, 0, none⟩) 0 n) []) := by
        rw [← hWq]
        have e := Stk.made (W.alloc (.cells ((bools n []).setIfInBounds k (.bool true)) 4)) n (by omega) (W.heap.size + 1) (by simp)
        simp only [World.size_alloc] at e
        exact e
      have HBq : Hid (Below W.heap.size W Wq) := by rw [← hWq]; exact ((Below.refl _ _).alloc (Nat.le_refl _) _).alloc (by simp) _
      have hsq : W.heap.size + 1 < Wq.heap.size := by rw [← hWq]; simp
      clear hWq
      obtain ⟨f0, hfi, hz0, hz1, hz2⟩ := info_parts info3
      have hlq : ([] : List Nat).length = 0 := rfl
      go_wp2_with (first | (at_builtin; refine wpList_append_own_at _ rfl _ _ 42 rfl (W.heap.size + 1) 3 f0 (.int .i64 0) 1 8 Tryf.underlying42 hfi hz0 hz1 hz2 rfl (by decide) _ _ _ rfl (World.ownsRow.alloc HSt.out _) ⟨Wq.heap.size, 0, none⟩ 1 1 [.int .i64 (k : Int)] rfl rfl (cell_one_at (by simp)) (ints_oneCell .i64 [(k : Int)]) (by have := hlq; unfold maxLen; omega) (by have := hlq; omega) (by simp; omega) ?_; intro v' w3 hown hgrow hnil hloc; have HO := hide hown; have HGr := hide hgrow; clear hown hgrow hnil hloc))
      clear hlq
      go_loopw [20, 21] (fun v h wr => ∃ (Q : List Nat) (hd : Nat), h = .int .i64 hd ∧ hd ≤ Q.length ∧ Hid (Stk wr (W.heap.size + 1) v Q) ∧ Hid (wr.heap[W.heap.size]? = some (.cells (bools n Q) 4 (0, 0))) ∧ Hid (Below W.heap.size W wr) ∧ Hid (Bfs (EZ Z) k n Q hd)) (fun _ h _ => n - (intOf h).toNat)
      case atStart => exact ⟨[k], 0, rfl, Nat.zero_le _, Stk.app (st := []) HO.out, (push_keep HSt.out HGr.out _ (by omega) (by omega)).trans HRw.out, push_below HSt.out HGr.out HBq.out (by omega) (by omega), Bfs.start hkn⟩
      case round =>
        obtain ⟨Q, hd, rfl, hle, hSt, hRw, hBe, hBf⟩ := hrel
        have hQn : Q.length ≤ n := by have := hBf.out.len; omega
        by_cases hlt : hd < Q.length
        · obtain ⟨g, cq, rfl, kB, kl, km, hcq⟩ := hSt.out.get hlt
          obtain ⟨u, hu⟩ : ∃ u, u = Q.getD hd 0 := ⟨_, rfl⟩
          rw [← hu] at hcq
          have hQu : Q[hd]? = some u := by rw [hu]; simp [List.getD, hlt]
          have hun := (hBf.out.all u (List.mem_of_getElem? hQu)).2
          have HB2 := hide (hBf.out.open_ hQu)
          obtain ⟨b2, o2, a2', c2', ha2, hc2, l1, l2, l3⟩ := HRp.out.nat hun
          have HC2 := hide hc2
          have L3 := hide l3
          have hlu := lE.out u hun
          have x1 := cell_later hBe.out hc2
          subst ha2
          clear hu hQu hc2 l3
          go_wp2
          clear x1 hcq
          go_loopw [20, 23] (fun v j wi => ∃ (Q2 : List Nat) (jj : Nat), jj ≤ (EZ Z u).length ∧ j = .int .i64 jj ∧ Hid (Stk wi (W.heap.size + 1) v Q2) ∧ Hid (wi.heap[W.heap.size]? = some (.cells (bools n Q2) 4 (0, 0))) ∧ Hid (Below W.heap.size W wi) ∧ Hid (Bfs2 (EZ Z) k n Q2 hd u jj)) (fun _ j _ => (EZ Z u).length - (intOf j).toNat)
          case atStart => exact ⟨Q, 0, Nat.zero_le _, rfl, hSt, hRw, hBe, HB2⟩
          case round =>
            obtain ⟨Q2, jj, hjj, rfl, hSt2, hRw2, hBe2, hBf2⟩ := hrel
            have x1 := cell_later hBe2.out HC2.out
            by_cases hjl : jj < (EZ Z u).length
            · obtain ⟨b3, o3, e5, hc3⟩ := L3.out jj hjl
              obtain ⟨q, hq⟩ : ∃ q, q = (EZ Z u).getD jj 0 := ⟨_, rfl⟩
              rw [← hq] at hc3
              have x3 := cell_later hBe2.out hc3
              have hqn : q < n := hEl.out u hun q (by rw [hq]; simp [List.getD, hjl])
              have x4 := rowc hRw2.out q (bools_get hqn)
              have x5 := rowf hRw2.out q
              have HQ5 := hide hq
              subst e5
              clear hc3 hq
              cases hcon : Q2.contains q with
              | true =>
                rw [hcon] at x4
                have hmem : q ∈ Q2 := by simpa using hcon
                have HN := hide (hBf2.out.skip hjl (by rw [← HQ5.out]; exact hmem))
                clear hcon hmem
                go_wp2
                go_roundw
                case rel => exact ⟨Q2, jj + 1, by omega, by go_num, hSt2, hRw2, hBe2, HN⟩
                case measure => simp [intOf]; omega
              | false =>
                rw [hcon] at x4
                have hmem : q ∉ Q2 := by simpa using hcon
                have HN := hide (hBf2.out.push hjl HQ5.out hqn hmem)
                have hlq : Q2.length ≤ 65536 := by have := hBf2.out.base.len; omega
                have HSt3 := hide (hSt2.out.at (w' := wr.setCell ⟨W.heap.size, q, none⟩ (.bool true)) (fun z hz _ => Below.heap_setCell _ _ _ _ (show z ≠ W.heap.size by omega)))
                have HRw3 : Hid ((wr.setCell ⟨W.heap.size, q, none⟩ (.bool true)).heap[W.heap.size]? = some (.cells (bools n (Q2 ++ [q])) 4 (0, 0))) := by rw [← bools_set hqn]; exact set_row hRw2.out
                have HBe3 : Hid (Below W.heap.size W (wr.setCell ⟨W.heap.size, q, none⟩ (.bool true))) := hBe2.out.setCell (Nat.le_refl _) _
                have hsz3 : W.heap.size < wr.heap.size := lt_of hRw2.out
                clear hcon hmem
                go_wp2_with (first | (at_builtin; refine wpList_append_own_at _ rfl _ _ 42 rfl (W.heap.size + 1) 3 f0 (.int .i64 0) 1 8 Tryf.underlying42 hfi hz0 hz1 hz2 rfl (by decide) _ _ _ rfl (World.ownsRow.alloc HSt3.out _) ⟨wr.heap.size, 0, none⟩ 1 1 [.int .i64 (q : Int)] rfl rfl (cell_one_at (by simp)) (ints_oneCell .i64 [(q : Int)]) (by have := hlq; unfold maxLen; omega) (by have := hlq; omega) (by simp; omega) ?_; intro v' w3 hown hgrow hnil hloc; have HO := hide hown; have HGr := hide hgrow; clear hown hgrow hnil hloc))
                go_roundw
                case rel => exact ⟨Q2 ++ [q], jj + 1, by omega, by go_num, Stk.app HO.out, (push_keep HSt3.out HGr.out _ (by omega) (by simp; omega)).trans HRw3.out, push_below HSt3.out HGr.out HBe3.out (by omega) (by simp; omega), HN⟩
                case measure => simp [intOf]; omega
            · have hje : jj = (EZ Z u).length := by omega
              subst hje
              have HN := hide hBf2.out.close
              have hcl : hd < Q2.length := (List.getElem?_eq_some_iff.1 hBf2.out.cur).1
              go_wp2
              go_roundw
              case rel => exact ⟨Q2, hd + 1, by go_num, hcl, hSt2, hRw2, hBe2, HN⟩
              case measure => simp [intOf]; omega
        · obtain ⟨a1, cq, rfl, kl, km⟩ := hSt.out.shape
          have HD : Hid (∀ u, Reach (EZ Z) k u ↔ u ∈ Q) := fun u => hBf.out.done (by omega)
          have HQl : Hid (∀ u, u ∈ Q → u < n) := fun u hu => (hBf.out.all u hu).2
          obtain ⟨Wc, hWc⟩ : ∃ x, x = wr := ⟨_, rfl⟩
          subst hWc
          go_wp2
          clear hle hlt hBf
          go_loopw [25, 26] (fun cv j wi => ∃ (m : Nat) (d : Bool), m ≤ n ∧ j = .int .i64 m ∧ cv = .bool d ∧ Hid (d = true → ∃ u, Reach (EZ Z) k u ∧ (G u).any (cov1 (r, a0, c0)) = true) ∧ Hid (d = false → ∀ u, u < m → u ∈ Q → (G u).any (cov1 (r, a0, c0)) = false) ∧ Hid (Below Wc.heap.size Wc wi)) (fun _ j _ => n - (intOf j).toNat)
          case atStart => exact ⟨0, false, Nat.zero_le _, rfl, rfl, (fun h => by cases h), (fun _ u hu => absurd hu (Nat.not_lt_zero _)), Below.refl _ _⟩
          case round =>
            obtain ⟨m, d, hm, rfl, rfl, hD1, hD2, hBi⟩ := hrel
            have HBw : Hid (Below w.heap.size w wr) := Below.next (Below.next HBW.out hBe.out HBW.out.size) hBi.out (Nat.le_trans HBW.out.size hBe.out.size)
            have HBWr : Hid (Below W.heap.size W wr) := Below.next hBe.out hBi.out hBe.out.size
            cases d with
            | true =>
              have ha1 : ans = true := hans.out.2 (hD1.out rfl)
              subst ha1
              by_cases hmt : m < n
              · go_wp2
                go_ret
                exact ⟨rfl, HBw.out⟩
              · go_wp2
                go_ret
                exact ⟨rfl, HBw.out⟩
            | false =>
              by_cases hmt : m < n
              · have x4 := rowc (blk hBi.out hRw.out (lt_of hRw.out)) m (bools_get hmt)
                cases hcon : Q.contains m with
                | false =>
                  rw [hcon] at x4
                  have hmem : m ∉ Q := by simpa using hcon
                  have HN : Hid (false = false → ∀ u, u < m + 1 → u ∈ Q → (G u).any (cov1 (r, a0, c0)) = false) := fun _ u hu hq => by
                    by_cases e : u = m
                    · subst e; exact absurd hq hmem
                    · exact hD2.out (by simp) u (by omega) hq
                  clear hcon hmem
                  go_wp2
                  go_roundw
                  case rel => exact ⟨m + 1, false, by omega, by go_num, rfl, (fun h => by cases h), HN, hBi⟩
                  case measure => simp [intOf]; omega
                | true =>
                  rw [hcon] at x4
                  have hmem : m ∈ Q := by simpa using hcon
                  obtain ⟨b5, o5, v5, ha5, hc5, a5', c5', ev, k1, k2, k3⟩ := HRg.out m hmt
                  have e1 : (strs (G m)).length = (G m).length := len_strs _
                  subst ev
                  simp only [e1] at hc5 k1
                  have HC5 := hide hc5
                  have K3 := hide k3
                  have hlg := (lG.out m hmt).1
                  have hsg := hide (lG.out m hmt).2
                  have x5 := cell_later HBWr.out hc5
                  subst ha5
                  clear hcon hc5 k3 e1
                  go_wp2
                  clear x4 x5
                  go_loopw [25, 27] (fun cv j wj => ∃ jj : Nat, jj ≤ (G m).length ∧ j = .int .i64 jj ∧ cv = .bool false ∧ Hid (∀ i, i < jj → cov1 (r, a0, c0) ((G m).getD i ⟨#[]⟩) = false) ∧ Hid (Below Wc.heap.size Wc wj)) (fun _ j _ => (G m).length - (intOf j).toNat)
                  case atStart => exact ⟨0, Nat.zero_le _, rfl, rfl, (fun i hi => absurd hi (Nat.not_lt_zero _)), hBi⟩
                  case round =>
                    obtain ⟨jj, hjj, rfl, rfl, hin, hBj⟩ := hrel
                    have HBWj : Hid (Below W.heap.size W wr) := Below.next hBe.out hBj.out hBe.out.size
                    have x5 := cell_later HBWj.out HC5.out
                    by_cases hjl : jj < (G m).length
                    · obtain ⟨b6, o6, e6, hc6⟩ := K3.out jj (by rw [len_strs]; exact hjl)
                      obtain ⟨x, ex⟩ : ∃ x, x = (G m).getD jj ⟨#[]⟩ := ⟨_, rfl⟩
                      replace hc6 : W.cell? ⟨b6, o6 + jj, none⟩ = some (.string x) := by rw [ex, ← strs_get hjl]; exact hc6
                      have x6 := cell_later HBWj.out hc6
                      have hz : x.size ≤ 2097152 := by have := hsg.out x (by rw [ex]; simp [List.getD, hjl]); omega
                      have y0 := cell_later HBWj.out (rowc HWant.out 0 rfl)
                      have y1 := cell_later HBWj.out (rowc HWant.out 1 rfl)
                      have y2 := cell_later HBWj.out (rowc HWant.out 2 rfl)
                      simp at y0 y1 y2
                      have HTj : Hid (F.answers wr.tape) := by rw [HBWj.out.tape]; exact HTW.out
                      have EX := hide ex
                      subst e6
                      clear ex hc6
                      go_wp2
                      go_region_held3 (fun wx => wx.cell? ⟨b5, o5 + m, none⟩ = some (.slice (some ⟨b6, o6, none⟩) (G m).length c5') ∧ wx.cell? ⟨b6, o6 + jj, none⟩ = some (.string x) ∧ wx.cell? ⟨w7.heap.size, 0, none⟩ = some (.string r) ∧ wx.cell? ⟨w7.heap.size, 1, none⟩ = some (.string a0) ∧ wx.cell? ⟨w7.heap.size, 2, none⟩ = some (.string c0)) (first | go_keep | exact ⟨cell_later HBx.out x5, cell_later HBx.out x6, cell_later HBx.out y0, cell_later HBx.out y1, cell_later HBx.out y2⟩) (first | (go_at_call 14; go_must (refine (gc14 F x r a0 c0 _ (by exact HTj.out) hz).mono ?_; rintro e wx1 ⟨rfl, hb0⟩; have HBx : Hid (Below wr.heap.size wr wx1) := ⟨hb0.os, hb0.tape, hb0.output, hb0.size, hb0.block⟩; clear hb0)))
                      cases hcv : cov1 (r, a0, c0) x with
                      | true =>
                        have HN : Hid (true = true → ∃ u, Reach (EZ Z) k u ∧ (G u).any (cov1 (r, a0, c0)) = true) := fun _ => ⟨m, (HD.out m).2 hmem, any_true hjl (by rw [← EX.out]; exact hcv)⟩
                        have HBn : Hid (Below Wc.heap.size Wc wx1) := Below.next hBj.out HBx.out hBj.out.size
                        have hcv' := hcv
                        clear hin
                        go_wp2
                        go_roundw
                        case rel => exact ⟨m + 1, true, by omega, by go_num, rfl, HN, (fun h => by cases h), HBn⟩
                        case measure => simp [intOf]; omega
                      | false =>
                        have HN : Hid (∀ i, i < jj + 1 → cov1 (r, a0, c0) ((G m).getD i ⟨#[]⟩) = false) := fun i hi => by
                          by_cases e : i = jj
                          · subst e; rw [← EX.out]; exact hcv
                          · exact hin.out i (by omega)
                        have HBn : Hid (Below Wc.heap.size Wc wx1) := Below.next hBj.out HBx.out hBj.out.size
                        clear hin
                        go_wp2
                        go_roundw
                        case rel => exact ⟨jj + 1, by omega, by go_num, rfl, HN, HBn⟩
                        case measure => simp [intOf]; omega
                    · have HN : Hid (false = false → ∀ u, u < m + 1 → u ∈ Q → (G u).any (cov1 (r, a0, c0)) = false) := fun _ u hu hq => by
                        by_cases e : u = m
                        · subst e; exact any_false (fun i hi => hin.out i (by omega))
                        · exact hD2.out (by simp) u (by omega) hq
                      clear hin
                      go_wp2
                      go_roundw
                      case rel => exact ⟨m + 1, false, by omega, by go_num, rfl, (fun h => by cases h), HN, hBj⟩
                      case measure => simp [intOf]; omega
              · have ha1 : ans = false := by
                  cases e : ans
                  · rfl
                  · obtain ⟨u, g1, g2⟩ := hans.out.1 e
                    have g3 := (HD.out u).1 g1
                    have g4 := HQl.out u g3
                    rw [hD2.out (by simp) u (by omega) g3] at g2
                    cases g2
                subst ha1
                go_wp2
                go_ret
                exact ⟨rfl, HBw.out⟩
end Go.Proofs.Qxb6608620aFmt
