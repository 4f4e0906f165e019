import Derived.Test.Qxb6608620aFmtPol
import Derived.Test.Qxb6608620aFmtCheck
import Derived.Test.Qxb6608620aFmtBytes
import Derived.Test.Qxb6608620aFmtGrown
namespace Go.Proofs.Qxb6608620aFmt
open Go.RowKit Go.Joins Go.Kit Go.Extern.Stop Go.Stop Go.Extern
set_option linter.unusedVariables false
set_option linter.unusedSimpArgs false

set_option maxRecDepth 100000 in
set_option maxHeartbeats 32000000 in
theorem child_main (F : Interp) (a a2 a3 : Option Addr) (n c c2 c3 : Nat) (K : Nat → ByteArray) (Z : Nat → List Int) (G : Nat → List ByteArray) (i : Nat) (p : ByteArray) (w : World) (hF : F.answers w.tape)
    (hr : Sl w a n (fun i => .string (K i))) (hr2 : Rws w a2 n (fun i => (Z i).map (Value.int .i64))) (hr3 : Rws w a3 n (fun i => strs (G i))) (hn : n ≤ 65536) (hp0 : p.size ≤ 65536) (hi : i < n)
    (hc : n ≤ c ∧ c ≤ maxLen) (hc2 : n ≤ c2 ∧ c2 ≤ maxLen) (hc3 : n ≤ c3 ∧ c3 ≤ maxLen) :
    Calls Tryf.prog 4 #[.slice a n c, .slice a2 n c2, .slice a3 n c3, .int .i64 (i : Int), .string p] w fun e w' => e = .returned (.bool true) ∧ Below w.heap.size w w' := by
  have HR := hide hr
  have HR2 := hide hr2
  have HR3 := hide hr3
  have HF := hide hF
  have HC := hide hc
  have HC2 := hide hc2
  have HC3 := hide hc3
  clear hr hr2 hr3 hF hc hc2 hc3
  have d1 : ¬ ((65536 : Int) < (n : Int)) := by omega
  have d2 : ¬ ((65536 : Int) < (p.size : Int)) := by omega
  have d3 : ¬ ((i : Int) < 0) := by omega
  have d4 : ¬ ((n : Int) ≤ (i : Int)) := by omega
  go_enter Tryf.func4, Tryf.ntmps4
  go_wp2_with (first | (go_at_call 15; go_must (refine (bytes15 a n c K a2 n c2 _ a3 n c3 G (i : Int) p _ HR.out HR2.out HR3.out).mono ?_; rintro e w' ⟨(rfl | ⟨rfl, hS, hp⟩), hw⟩ <;> rw [hw] <;> clear hw w')) | (go_at_call 8; go_must (refine (strs8 a n c K p.size _ hS.b1 hS.bk (by omega) (by omega) HR.out).mono ?_; rintro e w' ⟨⟨r8, r8a, r8b, rfl⟩, hw⟩; rw [hw]; clear hw w')) | (go_at_call 7; go_must (refine (ints7 a2 n c2 _ r8 _ hS.b2 r8a r8b HR2.out).mono ?_; rintro e w' ⟨⟨r7, r7a, r7b, rfl⟩, hw⟩; rw [hw]; clear hw w')) | (go_at_call 6; go_must (refine (rows6 a3 n c3 G r7 _ hS.b3 (fun i hi => (hS.bg i hi).1) (fun i hi => (hS.bg i hi).2) r7a r7b HR3.out).mono ?_; rintro e w' ⟨⟨r6, r6a, r6b, rfl⟩, hw⟩; rw [hw]; clear hw w'; by_cases d7 : (1048576 : Int) < r6)) | (go_at_call 9; go_must (refine (keys9 a n c K _ hS.b1 hS.bk HR.out).mono ?_; rintro e w1 ⟨(rfl | ⟨rfl, hAp⟩), hb⟩ <;> (have HB1 := hide hb; clear hb))) | (go_at_call 10; go_must (refine (fit10 a2 n c2 n Z _ hS.b2 hS.b1 (fun i hi => by have := hS.bx i hi; simpa using this) (HR2.out.later HB1.out (Nat.le_refl _))).mono ?_; rintro e w' ⟨(rfl | ⟨rfl, hfit⟩), hw⟩ <;> rw [hw] <;> clear hw w')))
  all_goals first | (go_ret; exact ⟨rfl, Below.refl _ _⟩) | (go_ret; exact ⟨rfl, HB1.out⟩) | skip
  have HFit := hide hfit
  have HS := hide hS
  have HAp := hide hAp
  have HRa : Hid (Sl w1 a n (fun i => .string (K i))) := HR.out.later HB1.out (Nat.le_refl _)
  clear hfit hS hAp
  go_loop [12, 13] (fun m j => ∃ (k L : Nat), k ≤ n ∧ j = .int .i64 k ∧ m = .int .i64 L ∧ L ≤ 1048576 ∧ Hid (∀ j, j < k → (K j).size ≤ L)) (fun _ j => n - (intOf j).toNat)
  case atStart => exact ⟨0, 0, Nat.zero_le _, rfl, rfl, Nat.zero_le _, fun j hj => absurd hj (Nat.not_lt_zero _)⟩
  case round =>
    obtain ⟨k, L, hk, rfl, rfl, hL, hall⟩ := hrel
    by_cases hlt : k < n
    · obtain ⟨b, o, ha, hc⟩ := HRa.out k hlt
      have hz := HS.out.bk k hlt
      subst ha
      by_cases hb : L < (K k).size
      · have HX : Hid (∀ j, j < k + 1 → (K j).size ≤ (K k).size) := fun j hj => by
          by_cases e : j = k
          · subst e; exact Nat.le_refl _
          · have := hall.out j (by omega); omega
        clear hall
        go_wp2
        go_round
        case rel => exact ⟨k + 1, (K k).size, by omega, by go_num, rfl, hz, HX⟩
        case measure => simp [intOf]; omega
      · have HX : Hid (∀ j, j < k + 1 → (K j).size ≤ L) := fun j hj => by
          by_cases e : j = k
          · subst e; omega
          · exact hall.out j (by omega)
        clear hall
        go_wp2
        go_round
        case rel => exact ⟨k + 1, L, by omega, by go_num, rfl, hL, HX⟩
        case measure => simp [intOf]; omega
    · have hkn : k = n := by omega
      subst hkn
      clear hlt hk
      have hm45 : ∀ w : World, (Instr.makeSlice 45 (.int .i64 ((L : Int) + 1)) (.int .i64 ((L : Int) + 1))).run Tryf.prog w = .ok (.slice (some ⟨w.heap.size, 0, none⟩) (L + 1) (L + 1)) (w.alloc (.cells (zrow L 0) 5)) := fun w => by rw [zrow_zero]; exact mk45 (L + 1) (by omega) w
      go_wp2
      clear hm45
      go_loopw [15] (fun j wr => ∃ q : Nat, q ≤ L + 1 ∧ j = .int .i64 q ∧ wr = w1.alloc (.cells (zrow L q) 5)) (fun j _ => L + 1 - (intOf j).toNat)
      case atStart => exact ⟨0, Nat.zero_le _, rfl, rfl⟩
      case round =>
        obtain ⟨q, hq, rfl, rfl⟩ := hrel
        by_cases hqt : q < L + 1
        · have hg := zrow_get hqt
          have HZ := hide (zrow_set hqt)
          go_wp2
          go_roundw
          case rel => exact ⟨q + 1, by omega, by go_num, by rw [HZ.out]⟩
          case measure => simp [intOf]; omega
        · have hqn : q = L + 1 := by omega
          subst hqn
          clear hqt hq
          have hcv1 := conv_child w1 L hL
          have hcv2 := conv_own w1 L hL
          have h00 := zrow_first L
          go_upto_region 26 with (fail)
          clear hcv1 hcv2 h00
          generalize hW0 : w1.alloc (.cells ((zrow L (L + 1)).setIfInBounds 0 (.int .u8 121)) 5) = W0
          have HB0 : Hid (Below w.heap.size w W0) := by rw [← hW0]; exact HB1.out.alloc HB1.out.size _
          clear hW0
          have hm22 : ∀ w : World, (Instr.makeSlice 22 (.int .i64 ((k : Int) + 2)) (.int .i64 ((k : Int) + 2))).run Tryf.prog w = .ok (.slice (some ⟨w.heap.size, 0, none⟩) (k + 2) (k + 2)) (w.alloc (.cells (Array.replicate (k + 2) (.string ⟨#[]⟩)) 9)) := fun w => mk22 (k + 2) (by omega) w
          have hm23 : ∀ w : World, (Instr.makeSlice 23 (.int .i64 ((k : Int) + 2)) (.int .i64 ((k : Int) + 2))).run Tryf.prog w = .ok (.slice (some ⟨w.heap.size, 0, none⟩) (k + 2) (k + 2)) (w.alloc (.cells (Array.replicate (k + 2) (.slice none 0 0)) 42)) := fun w => mk23 (k + 2) (by omega) w
          have hm24 : ∀ w : World, (Instr.makeSlice 24 (.int .i64 ((k : Int) + 2)) (.int .i64 ((k : Int) + 2))).run Tryf.prog w = .ok (.slice (some ⟨w.heap.size, 0, none⟩) (k + 2) (k + 2)) (w.alloc (.cells (Array.replicate (k + 2) (.slice none 0 0)) 22)) := fun w => mk24 (k + 2) (by omega) w
          obtain ⟨KL, hKL⟩ : ∃ KL : List Value, KL = (List.range k).map (fun i => .string (K i)) := ⟨_, rfl⟩
          have lKL : KL.length = k := by rw [hKL]; simp
          have rKL : Row w (.slice a k c) KL := by rw [hKL]; exact HR.out.list HC.out.1 HC.out.2
          have oKL : ∀ x ∈ KL, x.oneCell' = true := by rw [hKL]; intro x hx; obtain ⟨y, _, rfl⟩ := List.mem_map.1 hx; rfl
          obtain ⟨wk, hcp, hRk, hbk⟩ := copyEq (W0.alloc (.cells (Array.replicate (k + 2) (.string ⟨#[]⟩)) 9)) 22 9 3 Tryf.underlying22 (by kernel_rfl) W0.heap.size (k + 2) (.string ⟨#[]⟩) (.slice a k c) KL (rKL.later (HB0.out.alloc HB0.out.size _) (Nat.le_refl _)) (by omega) (heap_new _ _) oKL W0.heap.size W0 ((Below.refl _ _).alloc (Nat.le_refl _) _) (Nat.le_refl _)
          rw [lKL] at hcp
          rw [lKL, show k + 2 - k = 2 by omega] at hRk
          obtain ⟨x1, x2, x3, x4⟩ := grow2 lKL hRk
          replace hRk := hide hRk
          replace hbk := hide hbk
          replace hKL := hide hKL
          replace lKL := hide lKL
          clear rKL oKL
          go_upto_region 30 with (first | (refine wpList_move _ rfl (.tmp 0) rfl ?_; refine wpList_copyAt _ rfl (.tmp 137) (.tmp 138) 22 rfl _ _ rfl rfl wk _ hcp ?_))
          generalize hW1 : (wk.setCell ⟨W0.heap.size, k, none⟩ (.string (childK L))).setCell ⟨W0.heap.size, k + 1, none⟩ (.string (ownK L)) = W1
          have HB1k : Hid (Below w.heap.size w W1) := by rw [← hW1]; exact ((Below.next HB0.out hbk.out HB0.out.size).setCell HB0.out.size _).setCell HB0.out.size _
          have hRK : Hid (W1.heap[W0.heap.size]? = some (.cells (KL ++ [Value.string (childK L), Value.string (ownK L)]).toArray 9 (0, 0))) := by rw [← set_two lKL.out, ← hW1]; exact set_row (set_row hRk.out)
          clear hW1 hcp x1 x2 x3 x4 hRk hbk
          obtain ⟨V2, rV2, rX2⟩ := HR2.out.list HC2.out.1 HC2.out.2
          obtain ⟨VL, hVL⟩ : ∃ VL : List Value, VL = (List.range k).map V2 := ⟨_, rfl⟩
          have lVL : VL.length = k := by rw [hVL]; simp
          rw [← hVL] at rV2
          have oVL : ∀ x ∈ VL, x.oneCell' = true := by
            rw [hVL]
            intro x hx
            obtain ⟨y, hy, rfl⟩ := List.mem_map.1 hx
            obtain ⟨_, _, ev, _⟩ := rX2 y (List.mem_range.1 hy)
            rw [ev]
            rfl
          obtain ⟨wp, hcp, hRp, hbp⟩ := copyEq (W1.alloc (.cells (Array.replicate (k + 2) (.slice none 0 0)) 42)) 23 42 3 Tryf.underlying23 (by kernel_rfl) W1.heap.size (k + 2) (.slice none 0 0) (.slice a2 k c2) VL (rV2.later (HB1k.out.alloc HB1k.out.size _) (Nat.le_refl _)) (by omega) (heap_new _ _) oVL W1.heap.size W1 ((Below.refl _ _).alloc (Nat.le_refl _) _) (Nat.le_refl _)
          rw [lVL] at hcp
          rw [lVL, show k + 2 - k = 2 by omega] at hRp
          obtain ⟨x1, x2, x3, x4⟩ := grow2 lVL hRp
          have y1 : W1.heap.size < wp.heap.size := lt_of hRp
          have y2 : W1.heap.size < wp.heap.size + 1 := by omega
          have y3 : W1.heap.size < wp.heap.size + 1 + 1 := by omega
          replace hRp := hide hRp
          replace hbp := hide hbp
          replace hVL := hide hVL
          replace lVL := hide lVL
          replace rX2 := hide rX2
          clear rV2 oVL
          go_upto_region 34 with (first | (refine wpList_move _ rfl (.tmp 1) rfl ?_; refine wpList_copyAt _ rfl (.tmp 152) (.tmp 153) 23 rfl _ _ rfl rfl wp _ hcp ?_))
          generalize hW2 : (((wp.setCell ⟨W1.heap.size, k, none⟩ (.slice (some ⟨wp.heap.size, 0, none⟩) 1 1)).setCell ⟨W1.heap.size, k + 1, none⟩ (.slice (some ⟨wp.heap.size + 1, 0, none⟩) 1 1)).alloc (.cells #[.int .i64 (i : Int)] 3)).alloc (.cells #[.int .i64 (i : Int)] 3) = W2
          have HB2b : Hid (Below W1.heap.size W1 W2) := by rw [← hW2]; exact (((hbp.out.setCell (Nat.le_refl _) _).setCell (Nat.le_refl _) _).alloc (by simp; omega) _).alloc (by simp; omega) _
          have hRP : Hid (W2.heap[W1.heap.size]? = some (.cells (VL ++ [Value.slice (some ⟨wp.heap.size, 0, none⟩) 1 1, Value.slice (some ⟨wp.heap.size + 1, 0, none⟩) 1 1]).toArray 42 (0, 0))) := by rw [← set_two lVL.out, ← hW2]; exact heap_old (heap_old (set_row (set_row hRp.out)))
          have hN1 : Hid (W2.heap[wp.heap.size]? = some (.cells #[.int .i64 (i : Int)] 3 (0, 0))) := by rw [← hW2]; have e := heap_old (ob := .cells #[.int .i64 (i : Int)] 3) (heap_new ((wp.setCell ⟨W1.heap.size, k, none⟩ (.slice (some ⟨wp.heap.size, 0, none⟩) 1 1)).setCell ⟨W1.heap.size, k + 1, none⟩ (.slice (some ⟨wp.heap.size + 1, 0, none⟩) 1 1)) (.cells #[.int .i64 (i : Int)] 3)); simp only [World.size_setCell] at e; exact e
          have hN2 : Hid (W2.heap[wp.heap.size + 1]? = some (.cells #[.int .i64 (i : Int)] 3 (0, 0))) := by rw [← hW2]; have e := heap_alloc2_new ((wp.setCell ⟨W1.heap.size, k, none⟩ (.slice (some ⟨wp.heap.size, 0, none⟩) 1 1)).setCell ⟨W1.heap.size, k + 1, none⟩ (.slice (some ⟨wp.heap.size + 1, 0, none⟩) 1 1)) (.cells #[.int .i64 (i : Int)] 3) (.cells #[.int .i64 (i : Int)] 3); simp only [World.size_setCell] at e; exact e
          have HB2 : Hid (Below w.heap.size w W2) := Below.next HB1k.out HB2b.out HB1k.out.size
          clear hW2 hcp x1 x2 x3 x4 y1 y2 y3 hRp hbp
          obtain ⟨V3, rV3, rX3⟩ := HR3.out.list HC3.out.1 HC3.out.2
          obtain ⟨GL, hGL⟩ : ∃ GL : List Value, GL = (List.range k).map V3 := ⟨_, rfl⟩
          have lGL : GL.length = k := by rw [hGL]; simp
          rw [← hGL] at rV3
          have oGL : ∀ x ∈ GL, x.oneCell' = true := by
            rw [hGL]
            intro x hx
            obtain ⟨y, hy, rfl⟩ := List.mem_map.1 hx
            obtain ⟨_, _, ev, _⟩ := rX3 y (List.mem_range.1 hy)
            rw [ev]
            rfl
          obtain ⟨wg, hcp, hRg, hbg⟩ := copyEq (W2.alloc (.cells (Array.replicate (k + 2) (.slice none 0 0)) 22)) 24 22 3 Tryf.underlying24 (by kernel_rfl) W2.heap.size (k + 2) (.slice none 0 0) (.slice a3 k c3) GL (rV3.later (HB2.out.alloc HB2.out.size _) (Nat.le_refl _)) (by omega) (heap_new _ _) oGL W2.heap.size W2 ((Below.refl _ _).alloc (Nat.le_refl _) _) (Nat.le_refl _)
          rw [lGL] at hcp
          rw [lGL, show k + 2 - k = 2 by omega] at hRg
          obtain ⟨x1, x2, x3, x4⟩ := grow2 lGL hRg
          have y1 : W2.heap.size < wg.heap.size := lt_of hRg
          have y2 : W2.heap.size < wg.heap.size + 1 := by omega
          replace hRg := hide hRg
          replace hbg := hide hbg
          replace hGL := hide hGL
          replace lGL := hide lGL
          replace rX3 := hide rX3
          clear rV3 oGL
          go_upto_region 37 with (first | (refine wpList_move _ rfl (.tmp 2) rfl ?_; refine wpList_copyAt _ rfl (.tmp 169) (.tmp 170) 24 rfl _ _ rfl rfl wg _ hcp ?_))
          generalize hW3 : (wg.setCell ⟨W2.heap.size, k + 1, none⟩ (.slice (some ⟨wg.heap.size, 0, none⟩) 1 1)).alloc (.cells #[.string p] 9) = W3
          have HB3b : Hid (Below W2.heap.size W2 W3) := by rw [← hW3]; exact ((hbg.out.setCell (Nat.le_refl _) _).alloc (by simp; omega) _)
          have hRG : Hid (W3.heap[W2.heap.size]? = some (.cells (GL ++ [Value.slice none 0 0, Value.slice (some ⟨wg.heap.size, 0, none⟩) 1 1]).toArray 22 (0, 0))) := by rw [← set_second lGL.out, ← hW3]; exact heap_old (set_row hRg.out)
          have hN3 : Hid (W3.heap[wg.heap.size]? = some (.cells #[.string p] 9 (0, 0))) := by rw [← hW3]; have e := heap_new (wg.setCell ⟨W2.heap.size, k + 1, none⟩ (.slice (some ⟨wg.heap.size, 0, none⟩) 1 1)) (.cells #[.string p] 9); simp only [World.size_setCell] at e; exact e
          have HB3 : Hid (Below w.heap.size w W3) := Below.next HB2.out HB3b.out HB2.out.size
          clear hW3 hcp x1 x2 x3 x4 y1 y2 hRg hbg
          have hEl := EZ_lt HFit.out
          have S3 : Hid (Sl W3 (some ⟨W0.heap.size, 0, none⟩) (k + 2) (fun i => .string (K2 K k L i))) := by
            have e := hRK.out
            rw [hKL.out] at e
            exact ((sl2 e).later HB2b.out (Nat.le_refl _)).later HB3b.out (Nat.le_refl _)
          have R3 : Hid (Rws W3 (some ⟨W1.heap.size, 0, none⟩) (k + 2) (fun j => nats (E2 (EZ Z) k i j))) := by
            have e := hRP.out
            rw [hVL.out] at e
            refine Rws.later (rws2 e (fun j hj => ?_) ?_ ?_) HB3b.out (Nat.le_refl _)
            · show Row W2 (V2 j) (nats (E2 (EZ Z) k i j))
              rw [E2_lt hj]
              have e2 := nats_of (fun x hx => (HFit.out j hj x hx).1)
              show Row W2 (V2 j) (nats ((Z j).map Int.toNat))
              rw [← e2]
              exact (rX2.out j hj).later HB2.out (Nat.le_refl _)
            · show Row W2 _ (nats (E2 (EZ Z) k i k))
              rw [E2_n]
              exact one_row hN1.out
            · show Row W2 _ (nats (E2 (EZ Z) k i (k + 1)))
              rw [E2_n1]
              exact one_row hN2.out
          have G3 : Hid (Rws W3 (some ⟨W2.heap.size, 0, none⟩) (k + 2) (fun j => strs (G2 G k p j))) := by
            have e := hRG.out
            rw [hGL.out] at e
            refine rws2 e (fun j hj => ?_) ?_ ?_
            · show Row W3 (V3 j) (strs (G2 G k p j))
              rw [G2_lt hj]
              exact (rX3.out j hj).later HB3.out (Nat.le_refl _)
            · show Row W3 _ (strs (G2 G k p k))
              rw [G2_n]
              exact nil_row _
            · show Row W3 _ (strs (G2 G k p (k + 1)))
              rw [G2_n1]
              exact one_row hN3.out
          have R0 : Hid (Rws W3 a2 k (fun j => nats (EZ Z j))) := (Rws.nats HR2.out HFit.out).later HB3.out (Nat.le_refl _)
          have lE : Hid (∀ j, j < k → (EZ Z j).length ≤ 1048576) := fun j hj => by rw [len_EZ]; have := HS.out.bx j hj; simpa using this
          have fit1 : Hid (Fits k (EZ Z) G) := ⟨by omega, fun j hj => ⟨lE.out j hj, hEl j hj⟩, HS.out.bg⟩
          have fit2 : Hid (Fits (k + 2) (E2 (EZ Z) k i) (G2 G k p)) := by
            refine ⟨by omega, fun j hj => ?_, fun j hj => ?_⟩
            · by_cases e1 : j < k
              · rw [E2_lt e1]
                exact ⟨lE.out j e1, fun v hv => by have := hEl j e1 v hv; omega⟩
              · have e3 : E2 (EZ Z) k i j = [i] := by simp [E2, e1]
                rw [e3]
                exact ⟨by simp, fun v hv => by rw [List.mem_singleton.1 hv]; omega⟩
            · by_cases e1 : j < k
              · rw [G2_lt e1]
                exact HS.out.bg j e1
              · by_cases e2 : j = k
                · subst e2
                  rw [G2_n]
                  exact ⟨by simp, fun x hx => by cases hx⟩
                · have e3 : j = k + 1 := by omega
                  subst e3
                  rw [G2_n1]
                  exact ⟨by simp, fun x hx => by rw [List.mem_singleton.1 hx]; omega⟩
          have szK2 : Hid (∀ j, j < k + 2 → (K2 K k L j).size ≤ 2097152) := fun j hj => by
            by_cases e1 : j < k
            · rw [K2_lt e1]; have := HS.out.bk j e1; omega
            · by_cases e2 : j = k
              · subst e2; rw [K2_n, size_childK]; omega
              · have e3 : j = k + 1 := by omega
                subst e3; rw [K2_n1, size_ownK]; omega
          obtain ⟨b, o, ha, hc⟩ := HR.out i hi
          have HC0 := hide hc
          subst ha
          clear hc
          go_upto_region 38 with (first | (go_at_call 11; go_must (refine (pol11 _ a2 a3 k c c2 c3 K (EZ Z) G _ (by omega) (fun j hj => by have := HS.out.bk j hj; omega) HAp.out lE.out (fun j hj => (HS.out.bg j hj).1) (HR.out.later HB3.out (Nat.le_refl _)) R0.out (HR3.out.later HB3.out (Nat.le_refl _))).mono ?_; rintro e W4 ⟨⟨p1, hP1, rfl⟩, hb⟩; have HP1 := hide hP1; have HB4 := hide hb; clear hP1 hb)))
          go_upto_region 39 with (first | (go_at_call 11; go_must (refine (pol11 _ _ _ (k + 2) _ _ _ (K2 K k L) (E2 (EZ Z) k i) (G2 G k p) _ (by omega) szK2.out (apart2 HAp.out hall.out) (fun j hj => (fit2.out.f2 j hj).1) (fun j hj => (fit2.out.f3 j hj).1) (S3.out.later HB4.out (Nat.le_refl _)) (R3.out.later HB4.out (Nat.le_refl _)) (G3.out.later HB4.out (Nat.le_refl _))).mono ?_; rintro e W5 ⟨⟨p2, hP2, rfl⟩, hb⟩; have HP2 := hide hP2; have HP1' := hide (HP1.out.later hb); have HB5 : Hid (Below w.heap.size w W5) := Below.next (Below.next HB3.out HB4.out HB3.out.size) hb (Nat.le_trans HB3.out.size HB4.out.size); clear hP2 hb HP1)))
          have HT5 : Hid (F.answers W5.tape) := by rw [HB5.out.tape]; exact HF.out
          have xk := cell_later HB5.out HC0.out
          clear S3 R3 G3 R0 hRK hRP hRG hN1 hN2 hN3 HB3b HB2b rX2 rX3 hKL hVL hGL lKL lVL lGL HB4
          cases hq : permOf p with
          | none =>
            have HQ := hide hq
            clear hq
            go_upto_region 40 with (first | (go_at_call 12; go_must (refine (chk_bad F _ k K (EZ Z) G _ p _ HT5.out (by omega) HQ.out).mono ?_; rintro e W6 ⟨⟨z1, rfl⟩, hb⟩; have HB6 : Hid (Below w.heap.size w W6) := Below.next HB5.out hb HB5.out.size; clear hb; have xk6 := cell_later HB6.out HC0.out; have HT6 : Hid (F.answers W6.tape) := (by rw [HB6.out.tape]; exact HF.out))))
            go_upto_region 41 with (first | (go_at_call 12; go_must (refine (chk_bad F _ k K (EZ Z) G _ p _ HT6.out (by omega) HQ.out).mono ?_; rintro e W7 ⟨⟨z2, rfl⟩, hb⟩; have HB7 : Hid (Below w.heap.size w W7) := Below.next HB6.out hb HB6.out.size; clear hb; have HT7 : Hid (F.answers W7.tape) := (by rw [HB7.out.tape]; exact HF.out))))
            go_upto_region 42 with (first | (go_at_call 12; go_must (refine (chk_bad F _ k K (EZ Z) G _ p _ HT7.out (by omega) HQ.out).mono ?_; rintro e W8 ⟨⟨z3, rfl⟩, hb⟩; have HB8 : Hid (Below w.heap.size w W8) := Below.next HB7.out hb HB7.out.size; clear hb; have HT8 : Hid (F.answers W8.tape) := (by rw [HB8.out.tape]; exact HF.out))))
            go_upto_region 43 with (first | (go_at_call 12; go_must (refine (chk_bad F _ k K (EZ Z) G _ p _ HT8.out (by omega) HQ.out).mono ?_; rintro e W9 ⟨⟨z4, rfl⟩, hb⟩; have HB9 : Hid (Below w.heap.size w W9) := Below.next HB8.out hb HB8.out.size; clear hb; have HT9 : Hid (F.answers W9.tape) := (by rw [HB9.out.tape]; exact HF.out))))
            clear xk xk6
            cases hgo : grantOf p with
            | none =>
              have HGo := hide hgo
              clear hgo
              go_wp2_with (first | (go_at_call 13; go_must (refine (grant_none F p _ HT9.out (by omega) HGo.out).mono ?_; rintro e W10 ⟨⟨z5, rfl⟩, hb⟩; have HB10 : Hid (Below w.heap.size w W10) := Below.next HB9.out hb HB9.out.size; clear hb)))
              go_quiet (fail)
              go_wp2
              go_ret
              refine ⟨rfl, ?_⟩
              repeat' (first | exact HB10.out | refine below_drewN ?_ _ | refine Below.drew ?_ | refine Below.alloc ?_ ?_ _ | refine Below.setCell ?_ ?_ _ | exact HB10.out.size | (simp [size_drewN]; done) | (have := HB10.out.size; simp [size_drewN]; omega))
            | some g =>
              obtain ⟨gr, ga, gc⟩ := g
              have HGo := hide hgo
              have hst : isS gr = true ∨ (isS gr = false ∧ isS ga = true) := by
                cases e1 : isS gr
                · cases e2 : isS ga
                  · have e3 := perm_of_grant hgo e1 e2
                    rw [HQ.out] at e3
                    cases e3
                  · exact .inr ⟨rfl, rfl⟩
                · exact .inl rfl
              clear hgo
              rcases hst with t1 | ⟨t1, t2⟩
              · have u1 : (gr.toList == [42]) = true := t1
                clear t1
                go_wp2_with (first | (go_at_call 13; go_must (refine (grant_some p gr ga gc _ (by omega) HGo.out).mono ?_; rintro e W10 ⟨rfl, hb⟩; have HB10 : Hid (Below w.heap.size w W10) := Below.next HB9.out hb HB9.out.size; clear hb)))
                go_quiet (fail)
                go_wp2
                go_ret
                refine ⟨rfl, ?_⟩
                repeat' (first | exact HB10.out | refine below_drewN ?_ _ | refine Below.drew ?_ | refine Below.alloc ?_ ?_ _ | refine Below.setCell ?_ ?_ _ | exact HB10.out.size | (simp [size_drewN]; done) | (have := HB10.out.size; simp [size_drewN]; omega))
              · have u1 : (gr.toList == [42]) = false := t1
                have u2 : (ga.toList == [42]) = true := t2
                clear t1 t2
                go_wp2_with (first | (go_at_call 13; go_must (refine (grant_some p gr ga gc _ (by omega) HGo.out).mono ?_; rintro e W10 ⟨rfl, hb⟩; have HB10 : Hid (Below w.heap.size w W10) := Below.next HB9.out hb HB9.out.size; clear hb)))
                go_quiet (fail)
                go_wp2
                go_ret
                refine ⟨rfl, ?_⟩
                repeat' (first | exact HB10.out | refine below_drewN ?_ _ | refine Below.drew ?_ | refine Below.alloc ?_ ?_ _ | refine Below.setCell ?_ ?_ _ | exact HB10.out.size | (simp [size_drewN]; done) | (have := HB10.out.size; simp [size_drewN]; omega))
          | some q =>
            obtain ⟨r, a0, c0⟩ := q
            have HQ := hide hq
            obtain ⟨hgo, t1, t2⟩ := grant_of_perm hq
            have HGo := hide hgo
            have u1 : (r.toList == [42]) = false := t1
            have u2 : (a0.toList == [42]) = false := t2
            have hcp : cov1 (r, a0, c0) p = true := by simp only [cov1, hgo]; exact covG_self _
            have HCP := hide hcp
            clear hq hgo t1 t2 hcp
            have hzi : (K i).size ≤ 2097152 := by have := HS.out.bk i hi; omega
            have hC1 : Hid (∀ W : World, F.answers W.tape → Pol W p1 k K (EZ Z) G → _) := fun W hf hP => chk_ok F p1 k K (EZ Z) G i p r a0 c0 W hf hP fit1.out (by omega) hi hzi HQ.out
            have hC2 := fun W hf hP => chk_ok F p2 (k + 2) (K2 K k L) (E2 (EZ Z) k i) (G2 G k p) i p r a0 c0 W hf hP fit2.out (by omega) (by omega) (szK2.out i (by omega)) HQ.out
            have hC3 := fun W hf hP => chk_ok F p2 (k + 2) (K2 K k L) (E2 (EZ Z) k i) (G2 G k p) k p r a0 c0 W hf hP fit2.out (by omega) (by omega) (szK2.out k (by omega)) HQ.out
            have hC4 := fun W hf hP => chk_ok F p2 (k + 2) (K2 K k L) (E2 (EZ Z) k i) (G2 G k p) (k + 1) p r a0 c0 W hf hP fit2.out (by omega) (by omega) (szK2.out (k + 1) (by omega)) HQ.out
            rw [K2_lt hi] at hC2
            rw [K2_n] at hC3
            rw [K2_n1] at hC4
            replace hC2 := hide hC2
            replace hC3 := hide hC3
            replace hC4 := hide hC4
            go_upto_region 40 with (first | (go_at_call 12; go_must (refine (hC1.out _ HT5.out HP1'.out).mono ?_; rintro e W6 ⟨⟨ans1, hans1, rfl⟩, hb⟩; have HB6 : Hid (Below w.heap.size w W6) := Below.next HB5.out hb HB5.out.size; have HT6 : Hid (F.answers W6.tape) := (by rw [HB6.out.tape]; exact HF.out); have xk6 := cell_later HB6.out HC0.out; have HP26 := hide (HP2.out.later hb); clear hb)))
            go_upto_region 41 with (first | (go_at_call 12; go_must (refine (hC2.out _ HT6.out HP26.out).mono ?_; rintro e W7 ⟨⟨ans2, hans2, rfl⟩, hb⟩; have HB7 : Hid (Below w.heap.size w W7) := Below.next HB6.out hb HB6.out.size; have HT7 : Hid (F.answers W7.tape) := (by rw [HB7.out.tape]; exact HF.out); have HP27 := hide (HP26.out.later hb); clear hb)))
            go_upto_region 42 with (first | (go_at_call 12; go_must (refine (hC3.out _ HT7.out HP27.out).mono ?_; rintro e W8 ⟨⟨ans3, hans3, rfl⟩, hb⟩; have HB8 : Hid (Below w.heap.size w W8) := Below.next HB7.out hb HB7.out.size; have HT8 : Hid (F.answers W8.tape) := (by rw [HB8.out.tape]; exact HF.out); have HP28 := hide (HP27.out.later hb); clear hb)))
            go_upto_region 43 with (first | (go_at_call 12; go_must (refine (hC4.out _ HT8.out HP28.out).mono ?_; rintro e W9 ⟨⟨ans4, hans4, rfl⟩, hb⟩; have HB9 : Hid (Below w.heap.size w W9) := Below.next HB8.out hb HB8.out.size; have HT9 : Hid (F.answers W9.tape) := (by rw [HB9.out.tape]; exact HF.out);  clear hb)))
            clear xk xk6
            have e2 : ans2 = ans1 := by rw [Bool.eq_iff_iff, hans2.out, hans1.out]; exact there_iff (EZ_lt HFit.out) hi _
            have e3 : ans3 = ans1 := by rw [Bool.eq_iff_iff, hans3.out, hans1.out]; exact child_iff (EZ_lt HFit.out) hi _
            have e4 : ans4 = true := hans4.out.2 (own_has _ HCP.out)
            clear hans1 hans2 hans3 hans4
            subst e2 e3 e4
            cases ans3 with
            | true =>
              go_wp2_with (first | (go_at_call 13; go_must (refine (grant_some p r a0 c0 _ (by omega) HGo.out).mono ?_; rintro e W10 ⟨rfl, hb⟩; have HB10 : Hid (Below w.heap.size w W10) := Below.next HB9.out hb HB9.out.size; clear hb)))
              go_quiet (fail)
              go_wp2
              go_ret
              refine ⟨rfl, ?_⟩
              repeat' (first | exact HB10.out | refine below_drewN ?_ _ | refine Below.drew ?_ | refine Below.alloc ?_ ?_ _ | refine Below.setCell ?_ ?_ _ | exact HB10.out.size | (simp [size_drewN]; done) | (have := HB10.out.size; simp [size_drewN]; omega))
            | false =>
              go_wp2_with (first | (go_at_call 13; go_must (refine (grant_some p r a0 c0 _ (by omega) HGo.out).mono ?_; rintro e W10 ⟨rfl, hb⟩; have HB10 : Hid (Below w.heap.size w W10) := Below.next HB9.out hb HB9.out.size; clear hb)))
              go_quiet (fail)
              go_wp2
              go_ret
              refine ⟨rfl, ?_⟩
              repeat' (first | exact HB10.out | refine below_drewN ?_ _ | refine Below.drew ?_ | refine Below.alloc ?_ ?_ _ | refine Below.setCell ?_ ?_ _ | exact HB10.out.size | (simp [size_drewN]; done) | (have := HB10.out.size; simp [size_drewN]; omega))
end Go.Proofs.Qxb6608620aFmt
