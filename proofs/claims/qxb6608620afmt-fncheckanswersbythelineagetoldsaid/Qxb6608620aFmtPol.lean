import Derived.Test.Qxb6608620aFmtHalf
namespace Go.Proofs.Qxb6608620aFmt
open Go.RowKit Go.Joins Go.Kit
set_option linter.unusedVariables false
set_option linter.unusedSimpArgs false

set_option maxRecDepth 100000 in
set_option maxHeartbeats 16000000 in
theorem pol11 (a a2 a3 : Option Addr) (n c c2 c3 : Nat) (K : Nat → ByteArray) (E : Nat → List Nat) (G : Nat → List ByteArray) (w : World) (hn : n ≤ 2097152) (hK : ∀ i, i < n → (K i).size ≤ 2097152) (hA : Apart K n) (hE : ∀ i, i < n → (E i).length ≤ 1048576) (hG : ∀ i, i < n → (G i).length ≤ 1048576)
    (hr : Sl w a n (fun i => .string (K i))) (hr2 : Rws w a2 n (fun i => nats (E i))) (hr3 : Rws w a3 n (fun i => strs (G i))) :
    Calls Tryf.prog 11 #[.slice a n c, .slice a2 n c2, .slice a3 n c3, .slice none 0 0] w fun e w' => (∃ p, Pol w' p n K E G ∧ e = .returned (.pointer (some ⟨p, 0, none⟩))) ∧ Below w.heap.size w w' := by
  have HR := hide hr
  have HR2 := hide hr2
  have HR3 := hide hr3
  have HK := hide hK
  have HA := hide hA
  have HE := hide hE
  have HG := hide hG
  clear hr hr2 hr3 hK hA hE hG
  have hm1 := mk48 n (by omega)
  have hm2 := mk49 n
  go_enter Tryf.func11, Tryf.ntmps11
  go_wp2
  clear hm1 hm2
  go_loopw [11] (fun i wr => ∃ k : Nat, k ≤ n ∧ i = .int .i64 k ∧ Hid (Place wr (w.heap.size + 1) k K) ∧ Hid (Txt wr w.heap.size n) ∧ Hid (Below w.heap.size w wr) ∧ w.heap.size + 1 < wr.heap.size) (fun i _ => n - (intOf i).toNat)
  case atStart =>
    refine ⟨0, Nat.zero_le _, rfl, ?_, ⟨_, heap_old (heap_new _ _), size_zTexts n⟩, ((Below.refl _ w).alloc (Nat.le_refl _) _).alloc (by simp) _, by simp⟩
    have e1 : (w.alloc (.cells (zTexts n) 51)).heap.size = w.heap.size + 1 := by simp
    rw [← e1]
    exact Place.made _ K
  case round =>
    obtain ⟨k, hk, rfl, hPl, hTx, hbel, hsz⟩ := hrel
    by_cases hlt : k < n
    · obtain ⟨b, o, ha, hc⟩ := HR.out.later hbel.out (Nat.le_refl _) k hlt
      have hbl : b < w.heap.size := by
        obtain ⟨b', o', ha', hc'⟩ := HR.out k hlt
        have e1 : (⟨b, o, none⟩ : Addr) = ⟨b', o', none⟩ := Option.some.inj (ha.symm.trans ha')
        have e2 : b = b' := congrArg Addr.block e1
        rw [e2]
        exact World.block_lt_of_cell? w _ hc'
      have hbn : b ≠ w.heap.size := by omega
      have hz := HK.out k hlt
      obtain ⟨v0, t0⟩ := hTx.out.cell (i := k * 3) (by omega)
      obtain ⟨v1, t1⟩ := hTx.out.cell (i := k * 3 + 1) (by omega)
      obtain ⟨v2, t2⟩ := hTx.out.cell (i := k * 3 + 2) (by omega)
      have f0 := hTx.out.fr (k * 3)
      have f1 := hTx.out.fr (k * 3 + 1)
      have f2 := hTx.out.fr (k * 3 + 2)
      have hMT : w.heap.size + 1 ≠ w.heap.size := by omega
      obtain ⟨w', hup, hpl', hg'⟩ := (hPl.out.at (w' := ((wr.setCell ⟨w.heap.size, k * 3, none⟩ (.string (K k))).setCell ⟨w.heap.size, k * 3 + 1, none⟩ (.int .i64 ((k : Int) + 1))).setCell ⟨w.heap.size, k * 3 + 2, none⟩ (.int .i64 1))
        (by rw [Below.heap_setCell _ _ _ _ hMT, Below.heap_setCell _ _ _ _ hMT, Below.heap_setCell _ _ _ _ hMT])).put (by omega) (by omega) (fun i hi => HA.out i k hi hlt)
      have HP' := hide hpl'
      have HB3 : Hid (Below w.heap.size w w') := Below.grownAt (((hbel.out.setCell (Nat.le_refl _) _).setCell (Nat.le_refl _) _).setCell (Nat.le_refl _) _) hg' (by omega) (by simp; omega)
      have HT' : Hid (Txt w' w.heap.size n) := (((hTx.out.set _ _).set _ _).set _ _).at (hg'.block _ (by simp; omega) (by intro e; injection e with e; omega))
      have hs' : w.heap.size + 1 < w'.heap.size := by have := hg'.size; simp at this; omega
      subst ha
      clear hpl' hg' hMT
      go_wp2
      go_roundw
      case rel => exact ⟨k + 1, by omega, by go_num, HP', HT', HB3, hs'⟩
      case measure => simp [intOf]; omega
    · have hkn : k = n := by omega
      subst hkn
      clear hlt hk
      obtain ⟨w1, hq1⟩ : ∃ x, x = wr := ⟨_, rfl⟩
      subst hq1
      have HBa : Hid (Below w.heap.size w w1) := hbel.out
      have hsa : w.heap.size ≤ w1.heap.size := by omega
      have hmo := mk23 k (by omega)
      go_wp2
      clear hmo
      go_loopw [13] (fun i wi => ∃ q : Nat, q ≤ k ∧ i = .int .i64 q ∧ Hid (Below w1.heap.size w1 wi) ∧ Hid (Half wi w1.heap.size k q 42 (fun j => nats (E j)))) (fun i _ => k - (intOf i).toNat)
      case atStart => exact ⟨0, Nat.zero_le _, rfl, (Below.refl _ _).alloc (Nat.le_refl _) _, Half.start _ _ _ _⟩
      case round =>
        obtain ⟨q, hq, rfl, hbi, hHf⟩ := hrel
        by_cases hqt : q < k
        · have hbW : Hid (Below w.heap.size w wr) := Below.next HBa.out hbi.out hsa
          obtain ⟨b, o, v, ha, hc, hrow⟩ := HR2.out.later hbW.out (Nat.le_refl _) q hqt
          obtain ⟨a', c', ev, k1, k2, k3⟩ := id hrow
          have hlen := HE.out q hqt
          have e1 : (nats (E q)).length = (E q).length := len_nats _
          subst ev
          simp only [e1] at hc k1 hrow
          have HRow := hide hrow
          have K3 := hide k3
          have E1 := hide e1
          clear hrow k3 e1
          subst ha
          cases a' with
          | none =>
            have HN : Hid (nats (E q) = []) := by
              cases hx : nats (E q) with
              | nil => rfl
              | cons x y =>
                obtain ⟨_, _, hh, _⟩ := K3.out 0 (by show 0 < (nats (E q)).length; rw [hx]; simp)
                cases hh
            go_wp2
            go_roundw
            case rel => exact ⟨q + 1, by omega, by go_num, hbi, hHf.out.skip hqt HN.out⟩
            case measure => simp [intOf]; omega
          | some ad =>
            have hmi := mk42 (E q).length (by omega)
            obtain ⟨w5, hcp, hR5, hb5⟩ := copyEq (wr.alloc (.cells (Array.replicate (E q).length (.int .i64 0)) 3)) 42 3 3 Tryf.underlying42 (by kernel_rfl) wr.heap.size (E q).length (.int .i64 0) (.slice (some ad) (E q).length c') (nats (E q)) (HRow.out.later ((Below.refl _ _).alloc (Nat.le_refl _) _) (Nat.le_refl _)) (by rw [E1.out]; exact Nat.le_refl _) (heap_new _ _) (one_nats _) wr.heap.size wr ((Below.refl _ _).alloc (Nat.le_refl _) _) (Nat.le_refl _)
            rw [E1.out] at hcp
            have x1 := ((hHf.out.at hb5).cell hqt).1
            have x2 := ((hHf.out.at hb5).cell hqt).2
            replace hR5 := hide hR5
            replace hb5 := hide hb5
            have x0 : (wr.alloc (.cells (Array.replicate (E q).length (.int .i64 0)) 3)).cell? ⟨b, o + q, none⟩ = some (.slice (some ad) (E q).length c') := cell_later ((Below.refl _ _).alloc (Nat.le_refl _) _) hc
            go_wp2_with (first | (refine wpList_load42 _ rfl (.tmp 69) rfl ⟨b, o + q, none⟩ _ rfl x0 ?_; go_must (refine wpList_copyAt _ rfl (.tmp 66) (.tmp 70) 42 rfl _ _ rfl rfl w5 _ hcp ?_)))
            go_roundw
            case rel =>
              refine ⟨q + 1, by omega, by go_num, (Below.next hbi.out hb5.out hbi.out.size).setCell (Nat.le_refl _) _, ?_⟩
              have y1 := hR5.out
              rw [E1.out, Nat.sub_self, List.replicate_zero, List.append_nil] at y1
              have y2 := hHf.out.store hqt hb5.out y1 (Nat.lt_of_lt_of_le (hHf.out.lt) (Nat.le_refl _)) (by rw [E1.out]; unfold maxLen; omega)
              simp only [E1.out] at y2
              exact y2
            case measure => simp [intOf]; omega
        · have hqn : q = k := by omega
          subst hqn
          clear hqt hq
          obtain ⟨w2, hq2⟩ : ∃ x, x = wr := ⟨_, rfl⟩
          subst hq2
          have HBb : Hid (Below w.heap.size w w2) := Below.next HBa.out hbi.out hsa
          have hsb : w.heap.size ≤ w2.heap.size := Nat.le_trans hsa hbi.out.size
          have hmo := mk24 q (by omega)
          go_wp2
          clear hmo
          go_loopw [16] (fun i wi => ∃ r : Nat, r ≤ q ∧ i = .int .i64 r ∧ Hid (Below w2.heap.size w2 wi) ∧ Hid (Half wi w2.heap.size q r 22 (fun j => strs (G j)))) (fun i _ => q - (intOf i).toNat)
          case atStart => exact ⟨0, Nat.zero_le _, rfl, (Below.refl _ _).alloc (Nat.le_refl _) _, Half.start _ _ _ _⟩
          case round =>
            obtain ⟨r, hr, rfl, hbi2, hHf2⟩ := hrel
            by_cases hrt : r < q
            · have hbW : Hid (Below w.heap.size w wr) := Below.next HBb.out hbi2.out hsb
              obtain ⟨b, o, v, ha, hc, hrow⟩ := HR3.out.later hbW.out (Nat.le_refl _) r hrt
              obtain ⟨a', c', ev, k1, k2, k3⟩ := id hrow
              have hlen := HG.out r hrt
              have e1 : (strs (G r)).length = (G r).length := len_strs _
              subst ev
              simp only [e1] at hc k1 hrow
              have HRow := hide hrow
              have K3 := hide k3
              have E1 := hide e1
              clear hrow k3 e1
              subst ha
              cases a' with
              | none =>
                have HN : Hid (strs (G r) = []) := by
                  cases hx : strs (G r) with
                  | nil => rfl
                  | cons x y =>
                    obtain ⟨_, _, hh, _⟩ := K3.out 0 (by show 0 < (strs (G r)).length; rw [hx]; simp)
                    cases hh
                go_wp2
                go_roundw
                case rel => exact ⟨r + 1, by omega, by go_num, hbi2, hHf2.out.skip hrt HN.out⟩
                case measure => simp [intOf]; omega
              | some ad =>
                have hmi := mk22 (G r).length (by omega)
                obtain ⟨w5, hcp, hR5, hb5⟩ := copyEq (wr.alloc (.cells (Array.replicate (G r).length (.string ⟨#[]⟩)) 9)) 22 9 3 Tryf.underlying22 (by kernel_rfl) wr.heap.size (G r).length (.string ⟨#[]⟩) (.slice (some ad) (G r).length c') (strs (G r)) (HRow.out.later ((Below.refl _ _).alloc (Nat.le_refl _) _) (Nat.le_refl _)) (by rw [E1.out]; exact Nat.le_refl _) (heap_new _ _) (one_strs _) wr.heap.size wr ((Below.refl _ _).alloc (Nat.le_refl _) _) (Nat.le_refl _)
                rw [E1.out] at hcp
                have x1 := ((hHf2.out.at hb5).cell hrt).1
                have x2 := ((hHf2.out.at hb5).cell hrt).2
                replace hR5 := hide hR5
                replace hb5 := hide hb5
                have x0 : (wr.alloc (.cells (Array.replicate (G r).length (.string ⟨#[]⟩)) 9)).cell? ⟨b, o + r, none⟩ = some (.slice (some ad) (G r).length c') := cell_later ((Below.refl _ _).alloc (Nat.le_refl _) _) hc
                go_wp2_with (first | (refine wpList_load22 _ rfl (.tmp 99) rfl ⟨b, o + r, none⟩ _ rfl x0 ?_; go_must (refine wpList_copyAt _ rfl (.tmp 96) (.tmp 100) 22 rfl _ _ rfl rfl w5 _ hcp ?_)))
                go_roundw
                case rel =>
                  refine ⟨r + 1, by omega, by go_num, (Below.next hbi2.out hb5.out hbi2.out.size).setCell (Nat.le_refl _) _, ?_⟩
                  have y1 := hR5.out
                  rw [E1.out, Nat.sub_self, List.replicate_zero, List.append_nil] at y1
                  have y2 := hHf2.out.store hrt hb5.out y1 (Nat.lt_of_lt_of_le (hHf2.out.lt) (Nat.le_refl _)) (by rw [E1.out]; unfold maxLen; omega)
                  simp only [E1.out] at y2
                  exact y2
                case measure => simp [intOf]; omega
            · have hqn : r = q := by omega
              subst hqn
              clear hrt hr
              have HBc : Hid (Below w.heap.size w wr) := Below.next HBb.out hbi2.out hsb
              go_wp2_with (first | (go_at_call 16; go_must (refine (new16 _ _ _ _ _ _ _ _ _ _ _).mono ?_; rintro e w6 ⟨rfl, hw⟩; rw [hw]; clear hw w6)))
              go_ret
              have hF2 : Below wr.heap.size wr ((wr.alloc (.cells #[.slice (some ⟨w.heap.size, 0, none⟩) r r, .map (some (w.heap.size + 1)), .slice (some ⟨w1.heap.size, 0, none⟩) r r] 71)).alloc (.cells #[.pointer none, .pointer (some ⟨wr.heap.size, 0, none⟩), .slice (some ⟨w2.heap.size, 0, none⟩) r r, .slice none 0 0] 62)) := ((Below.refl _ _).alloc (Nat.le_refl _) _).alloc (by simp) _
              have hPf := ((hPl.out.later hbi.out hsz).later hbi2.out (Nat.lt_of_lt_of_le hsz hbi.out.size)).later hF2 (Nat.lt_of_lt_of_le (Nat.lt_of_lt_of_le hsz hbi.out.size) hbi2.out.size)
              refine ⟨⟨wr.heap.size + 1, ⟨wr.heap.size, w.heap.size + 1, r, r, _, _, _, _, heap_alloc2_new _ _ _, heap_old (heap_new _ _), hPf, ?_, ?_⟩, rfl⟩, Below.next HBc.out hF2 (Nat.le_trans hsb hbi2.out.size)⟩
              · exact ((hHf.out.rws.later hbi2.out (Nat.le_refl _)).later hF2 (Nat.le_refl _))
              · exact (hHf2.out.rws.later hF2 (Nat.le_refl _))
end Go.Proofs.Qxb6608620aFmt
