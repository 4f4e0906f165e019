import Derived.Test.Qxb6608620aFmtCover2
namespace Go.Proofs.Qxb6608620aFmt
open Go.RowKit Go.Joins Go.Kit Go.Extern.Stop Go.Stop Go.Extern
set_option linter.unusedVariables false
set_option linter.unusedSimpArgs false

set_option maxHeartbeats 8000000 in
theorem gc14 (F : Interp) (x r a c : ByteArray) (w : World) (hF : F.answers w.tape) (hz : x.size ≤ 2097152) : Calls Tryf.prog 14 #[.string x, P3 r a c] w fun e w' => e = .returned (.bool (cov1 (r, a, c) x)) ∧ Below w.heap.size w w' := by
  have h0 : Hid (Below w.heap.size w (w.alloc (.cells #[.string r, .string a, .string c] 38))) := (Below.refl _ w).alloc (Nat.le_refl _) _
  cases hg : grantOf x with
  | none =>
    have HF := hide hF
    have HG := hide hg
    have ev : cov1 (r, a, c) x = false := by simp [cov1, hg]
    rw [ev]
    clear hF hg ev
    go_enter Tryf.func14, Tryf.ntmps14
    go_wp2_with (first | (go_at_call 13; go_must (refine (grant_none F x _ (by exact HF.out) hz HG.out).mono ?_; rintro e w1 ⟨⟨y, rfl⟩, hb⟩; have HB := hide hb; clear hb)))
    go_ret
    exact ⟨rfl, (Below.next h0.out HB.out (by simp)).alloc (by have := HB.out.size; simp at this; omega) _⟩
  | some g =>
    obtain ⟨gr, ga, gc⟩ := g
    have HG := hide hg
    clear hF
    cases s1 : isS gr
    · cases e1 : eqS gr r
      · have s1f := s1
        have e1f := e1
        clear s1 e1
        have ev : cov1 (r, a, c) x = false := by simp [cov1, hg, covG, s1f, e1f]
        rw [ev]; clear ev hg
        have ts1f : (gr.toList == [42]) = false := s1f
        have te1f : (gr.toList == r.toList) = false := e1f
        clear s1f e1f
        go_enter Tryf.func14, Tryf.ntmps14
        go_wp2_with (first | (go_at_call 13; go_must (refine (grant_some x gr ga gc _ hz HG.out).mono ?_; rintro e w1 ⟨rfl, hb⟩; have HB := hide hb; have b0 := rowc (blk hb (heap_new _ _) (by simp)) 0 rfl; have b1 := rowc (blk hb (heap_new _ _) (by simp)) 1 rfl; have b2 := rowc (blk hb (heap_new _ _) (by simp)) 2 rfl; have bl : w.heap.size < w1.heap.size := (by have := hb.size; simp at this; omega); simp at b0 b1 b2; clear hb)))
        go_ret
        exact ⟨rfl, (Below.next h0.out HB.out (by simp)).alloc (by omega) _⟩
      · have s1f := s1
        have e1t := e1
        clear s1 e1
        cases s2 : isS ga
        · cases e2 : eqS ga a
          · have s2f := s2
            have e2f := e2
            clear s2 e2
            have ev : cov1 (r, a, c) x = false := by simp [cov1, hg, covG, s1f, e1t, s2f, e2f]
            rw [ev]; clear ev hg
            have ts1f : (gr.toList == [42]) = false := s1f
            have te1t : (gr.toList == r.toList) = true := e1t
            have ts2f : (ga.toList == [42]) = false := s2f
            have te2f : (ga.toList == a.toList) = false := e2f
            clear s1f e1t s2f e2f
            go_enter Tryf.func14, Tryf.ntmps14
            go_wp2_with (first | (go_at_call 13; go_must (refine (grant_some x gr ga gc _ hz HG.out).mono ?_; rintro e w1 ⟨rfl, hb⟩; have HB := hide hb; have b0 := rowc (blk hb (heap_new _ _) (by simp)) 0 rfl; have b1 := rowc (blk hb (heap_new _ _) (by simp)) 1 rfl; have b2 := rowc (blk hb (heap_new _ _) (by simp)) 2 rfl; have bl : w.heap.size < w1.heap.size := (by have := hb.size; simp at this; omega); simp at b0 b1 b2; clear hb)))
            go_ret
            exact ⟨rfl, (Below.next h0.out HB.out (by simp)).alloc (by omega) _⟩
          · have s2f := s2
            have e2t := e2
            clear s2 e2
            cases z3 : (gc.toList == [])
            · cases e3 : eqS gc c
              · have z3f := z3
                have e3f := e3
                clear z3 e3
                have ev : cov1 (r, a, c) x = false := by simp [cov1, hg, covG, s1f, e1t, s2f, e2t, z3f, e3f]
                rw [ev]; clear ev hg
                have ts1f : (gr.toList == [42]) = false := s1f
                have te1t : (gr.toList == r.toList) = true := e1t
                have ts2f : (ga.toList == [42]) = false := s2f
                have te2t : (ga.toList == a.toList) = true := e2t
                have te3f : (gc.toList == c.toList) = false := e3f
                clear s1f e1t s2f e2t e3f
                go_enter Tryf.func14, Tryf.ntmps14
                go_wp2_with (first | (go_at_call 13; go_must (refine (grant_some x gr ga gc _ hz HG.out).mono ?_; rintro e w1 ⟨rfl, hb⟩; have HB := hide hb; have b0 := rowc (blk hb (heap_new _ _) (by simp)) 0 rfl; have b1 := rowc (blk hb (heap_new _ _) (by simp)) 1 rfl; have b2 := rowc (blk hb (heap_new _ _) (by simp)) 2 rfl; have bl : w.heap.size < w1.heap.size := (by have := hb.size; simp at this; omega); simp at b0 b1 b2; clear hb)))
                go_ret
                exact ⟨rfl, (Below.next h0.out HB.out (by simp)).alloc (by omega) _⟩
              · have z3f := z3
                have e3t := e3
                clear z3 e3
                have ev : cov1 (r, a, c) x = true := by simp [cov1, hg, covG, s1f, e1t, s2f, e2t, z3f, e3t]
                rw [ev]; clear ev hg
                have ts1f : (gr.toList == [42]) = false := s1f
                have te1t : (gr.toList == r.toList) = true := e1t
                have ts2f : (ga.toList == [42]) = false := s2f
                have te2t : (ga.toList == a.toList) = true := e2t
                have te3t : (gc.toList == c.toList) = true := e3t
                clear s1f e1t s2f e2t e3t
                go_enter Tryf.func14, Tryf.ntmps14
                go_wp2_with (first | (go_at_call 13; go_must (refine (grant_some x gr ga gc _ hz HG.out).mono ?_; rintro e w1 ⟨rfl, hb⟩; have HB := hide hb; have b0 := rowc (blk hb (heap_new _ _) (by simp)) 0 rfl; have b1 := rowc (blk hb (heap_new _ _) (by simp)) 1 rfl; have b2 := rowc (blk hb (heap_new _ _) (by simp)) 2 rfl; have bl : w.heap.size < w1.heap.size := (by have := hb.size; simp at this; omega); simp at b0 b1 b2; clear hb)))
                go_ret
                exact ⟨rfl, (Below.next h0.out HB.out (by simp)).alloc (by omega) _⟩
            · have z3t := z3
              clear z3
              have ev : cov1 (r, a, c) x = true := by simp [cov1, hg, covG, s1f, e1t, s2f, e2t, z3t]
              rw [ev]; clear ev hg
              have ts1f : (gr.toList == [42]) = false := s1f
              have te1t : (gr.toList == r.toList) = true := e1t
              have ts2f : (ga.toList == [42]) = false := s2f
              have te2t : (ga.toList == a.toList) = true := e2t
              clear s1f e1t s2f e2t
              go_enter Tryf.func14, Tryf.ntmps14
              go_wp2_with (first | (go_at_call 13; go_must (refine (grant_some x gr ga gc _ hz HG.out).mono ?_; rintro e w1 ⟨rfl, hb⟩; have HB := hide hb; have b0 := rowc (blk hb (heap_new _ _) (by simp)) 0 rfl; have b1 := rowc (blk hb (heap_new _ _) (by simp)) 1 rfl; have b2 := rowc (blk hb (heap_new _ _) (by simp)) 2 rfl; have bl : w.heap.size < w1.heap.size := (by have := hb.size; simp at this; omega); simp at b0 b1 b2; clear hb)))
              go_ret
              exact ⟨rfl, (Below.next h0.out HB.out (by simp)).alloc (by omega) _⟩
        · have s2t := s2
          clear s2
          cases z3 : (gc.toList == [])
          · cases e3 : eqS gc c
            · have z3f := z3
              have e3f := e3
              clear z3 e3
              have ev : cov1 (r, a, c) x = false := by simp [cov1, hg, covG, s1f, e1t, s2t, z3f, e3f]
              rw [ev]; clear ev hg
              have ts1f : (gr.toList == [42]) = false := s1f
              have te1t : (gr.toList == r.toList) = true := e1t
              have ts2t : (ga.toList == [42]) = true := s2t
              have te3f : (gc.toList == c.toList) = false := e3f
              clear s1f e1t s2t e3f
              go_enter Tryf.func14, Tryf.ntmps14
              go_wp2_with (first | (go_at_call 13; go_must (refine (grant_some x gr ga gc _ hz HG.out).mono ?_; rintro e w1 ⟨rfl, hb⟩; have HB := hide hb; have b0 := rowc (blk hb (heap_new _ _) (by simp)) 0 rfl; have b1 := rowc (blk hb (heap_new _ _) (by simp)) 1 rfl; have b2 := rowc (blk hb (heap_new _ _) (by simp)) 2 rfl; have bl : w.heap.size < w1.heap.size := (by have := hb.size; simp at this; omega); simp at b0 b1 b2; clear hb)))
              go_ret
              exact ⟨rfl, (Below.next h0.out HB.out (by simp)).alloc (by omega) _⟩
            · have z3f := z3
              have e3t := e3
              clear z3 e3
              have ev : cov1 (r, a, c) x = true := by simp [cov1, hg, covG, s1f, e1t, s2t, z3f, e3t]
              rw [ev]; clear ev hg
              have ts1f : (gr.toList == [42]) = false := s1f
              have te1t : (gr.toList == r.toList) = true := e1t
              have ts2t : (ga.toList == [42]) = true := s2t
              have te3t : (gc.toList == c.toList) = true := e3t
              clear s1f e1t s2t e3t
              go_enter Tryf.func14, Tryf.ntmps14
              go_wp2_with (first | (go_at_call 13; go_must (refine (grant_some x gr ga gc _ hz HG.out).mono ?_; rintro e w1 ⟨rfl, hb⟩; have HB := hide hb; have b0 := rowc (blk hb (heap_new _ _) (by simp)) 0 rfl; have b1 := rowc (blk hb (heap_new _ _) (by simp)) 1 rfl; have b2 := rowc (blk hb (heap_new _ _) (by simp)) 2 rfl; have bl : w.heap.size < w1.heap.size := (by have := hb.size; simp at this; omega); simp at b0 b1 b2; clear hb)))
              go_ret
              exact ⟨rfl, (Below.next h0.out HB.out (by simp)).alloc (by omega) _⟩
          · have z3t := z3
            clear z3
            have ev : cov1 (r, a, c) x = true := by simp [cov1, hg, covG, s1f, e1t, s2t, z3t]
            rw [ev]; clear ev hg
            have ts1f : (gr.toList == [42]) = false := s1f
            have te1t : (gr.toList == r.toList) = true := e1t
            have ts2t : (ga.toList == [42]) = true := s2t
            clear s1f e1t s2t
            go_enter Tryf.func14, Tryf.ntmps14
            go_wp2_with (first | (go_at_call 13; go_must (refine (grant_some x gr ga gc _ hz HG.out).mono ?_; rintro e w1 ⟨rfl, hb⟩; have HB := hide hb; have b0 := rowc (blk hb (heap_new _ _) (by simp)) 0 rfl; have b1 := rowc (blk hb (heap_new _ _) (by simp)) 1 rfl; have b2 := rowc (blk hb (heap_new _ _) (by simp)) 2 rfl; have bl : w.heap.size < w1.heap.size := (by have := hb.size; simp at this; omega); simp at b0 b1 b2; clear hb)))
            go_ret
            exact ⟨rfl, (Below.next h0.out HB.out (by simp)).alloc (by omega) _⟩
    · have s1t := s1
      clear s1
      cases s2 : isS ga
      · cases e2 : eqS ga a
        · have s2f := s2
          have e2f := e2
          clear s2 e2
          have ev : cov1 (r, a, c) x = false := by simp [cov1, hg, covG, s1t, s2f, e2f]
          rw [ev]; clear ev hg
          have ts1t : (gr.toList == [42]) = true := s1t
          have ts2f : (ga.toList == [42]) = false := s2f
          have te2f : (ga.toList == a.toList) = false := e2f
          clear s1t s2f e2f
          go_enter Tryf.func14, Tryf.ntmps14
          go_wp2_with (first | (go_at_call 13; go_must (refine (grant_some x gr ga gc _ hz HG.out).mono ?_; rintro e w1 ⟨rfl, hb⟩; have HB := hide hb; have b0 := rowc (blk hb (heap_new _ _) (by simp)) 0 rfl; have b1 := rowc (blk hb (heap_new _ _) (by simp)) 1 rfl; have b2 := rowc (blk hb (heap_new _ _) (by simp)) 2 rfl; have bl : w.heap.size < w1.heap.size := (by have := hb.size; simp at this; omega); simp at b0 b1 b2; clear hb)))
          go_ret
          exact ⟨rfl, (Below.next h0.out HB.out (by simp)).alloc (by omega) _⟩
        · have s2f := s2
          have e2t := e2
          clear s2 e2
          cases z3 : (gc.toList == [])
          · cases e3 : eqS gc c
            · have z3f := z3
              have e3f := e3
              clear z3 e3
              have ev : cov1 (r, a, c) x = false := by simp [cov1, hg, covG, s1t, s2f, e2t, z3f, e3f]
              rw [ev]; clear ev hg
              have ts1t : (gr.toList == [42]) = true := s1t
              have ts2f : (ga.toList == [42]) = false := s2f
              have te2t : (ga.toList == a.toList) = true := e2t
              have te3f : (gc.toList == c.toList) = false := e3f
              clear s1t s2f e2t e3f
              go_enter Tryf.func14, Tryf.ntmps14
              go_wp2_with (first | (go_at_call 13; go_must (refine (grant_some x gr ga gc _ hz HG.out).mono ?_; rintro e w1 ⟨rfl, hb⟩; have HB := hide hb; have b0 := rowc (blk hb (heap_new _ _) (by simp)) 0 rfl; have b1 := rowc (blk hb (heap_new _ _) (by simp)) 1 rfl; have b2 := rowc (blk hb (heap_new _ _) (by simp)) 2 rfl; have bl : w.heap.size < w1.heap.size := (by have := hb.size; simp at this; omega); simp at b0 b1 b2; clear hb)))
              go_ret
              exact ⟨rfl, (Below.next h0.out HB.out (by simp)).alloc (by omega) _⟩
            · have z3f := z3
              have e3t := e3
              clear z3 e3
              have ev : cov1 (r, a, c) x = true := by simp [cov1, hg, covG, s1t, s2f, e2t, z3f, e3t]
              rw [ev]; clear ev hg
              have ts1t : (gr.toList == [42]) = true := s1t
              have ts2f : (ga.toList == [42]) = false := s2f
              have te2t : (ga.toList == a.toList) = true := e2t
              have te3t : (gc.toList == c.toList) = true := e3t
              clear s1t s2f e2t e3t
              go_enter Tryf.func14, Tryf.ntmps14
              go_wp2_with (first | (go_at_call 13; go_must (refine (grant_some x gr ga gc _ hz HG.out).mono ?_; rintro e w1 ⟨rfl, hb⟩; have HB := hide hb; have b0 := rowc (blk hb (heap_new _ _) (by simp)) 0 rfl; have b1 := rowc (blk hb (heap_new _ _) (by simp)) 1 rfl; have b2 := rowc (blk hb (heap_new _ _) (by simp)) 2 rfl; have bl : w.heap.size < w1.heap.size := (by have := hb.size; simp at this; omega); simp at b0 b1 b2; clear hb)))
              go_ret
              exact ⟨rfl, (Below.next h0.out HB.out (by simp)).alloc (by omega) _⟩
          · have z3t := z3
            clear z3
            have ev : cov1 (r, a, c) x = true := by simp [cov1, hg, covG, s1t, s2f, e2t, z3t]
            rw [ev]; clear ev hg
            have ts1t : (gr.toList == [42]) = true := s1t
            have ts2f : (ga.toList == [42]) = false := s2f
            have te2t : (ga.toList == a.toList) = true := e2t
            clear s1t s2f e2t
            go_enter Tryf.func14, Tryf.ntmps14
            go_wp2_with (first | (go_at_call 13; go_must (refine (grant_some x gr ga gc _ hz HG.out).mono ?_; rintro e w1 ⟨rfl, hb⟩; have HB := hide hb; have b0 := rowc (blk hb (heap_new _ _) (by simp)) 0 rfl; have b1 := rowc (blk hb (heap_new _ _) (by simp)) 1 rfl; have b2 := rowc (blk hb (heap_new _ _) (by simp)) 2 rfl; have bl : w.heap.size < w1.heap.size := (by have := hb.size; simp at this; omega); simp at b0 b1 b2; clear hb)))
            go_ret
            exact ⟨rfl, (Below.next h0.out HB.out (by simp)).alloc (by omega) _⟩
      · have s2t := s2
        clear s2
        cases z3 : (gc.toList == [])
        · cases e3 : eqS gc c
          · have z3f := z3
            have e3f := e3
            clear z3 e3
            have ev : cov1 (r, a, c) x = false := by simp [cov1, hg, covG, s1t, s2t, z3f, e3f]
            rw [ev]; clear ev hg
            have ts1t : (gr.toList == [42]) = true := s1t
            have ts2t : (ga.toList == [42]) = true := s2t
            have te3f : (gc.toList == c.toList) = false := e3f
            clear s1t s2t e3f
            go_enter Tryf.func14, Tryf.ntmps14
            go_wp2_with (first | (go_at_call 13; go_must (refine (grant_some x gr ga gc _ hz HG.out).mono ?_; rintro e w1 ⟨rfl, hb⟩; have HB := hide hb; have b0 := rowc (blk hb (heap_new _ _) (by simp)) 0 rfl; have b1 := rowc (blk hb (heap_new _ _) (by simp)) 1 rfl; have b2 := rowc (blk hb (heap_new _ _) (by simp)) 2 rfl; have bl : w.heap.size < w1.heap.size := (by have := hb.size; simp at this; omega); simp at b0 b1 b2; clear hb)))
            go_ret
            exact ⟨rfl, (Below.next h0.out HB.out (by simp)).alloc (by omega) _⟩
          · have z3f := z3
            have e3t := e3
            clear z3 e3
            have ev : cov1 (r, a, c) x = true := by simp [cov1, hg, covG, s1t, s2t, z3f, e3t]
            rw [ev]; clear ev hg
            have ts1t : (gr.toList == [42]) = true := s1t
            have ts2t : (ga.toList == [42]) = true := s2t
            have te3t : (gc.toList == c.toList) = true := e3t
            clear s1t s2t e3t
            go_enter Tryf.func14, Tryf.ntmps14
            go_wp2_with (first | (go_at_call 13; go_must (refine (grant_some x gr ga gc _ hz HG.out).mono ?_; rintro e w1 ⟨rfl, hb⟩; have HB := hide hb; have b0 := rowc (blk hb (heap_new _ _) (by simp)) 0 rfl; have b1 := rowc (blk hb (heap_new _ _) (by simp)) 1 rfl; have b2 := rowc (blk hb (heap_new _ _) (by simp)) 2 rfl; have bl : w.heap.size < w1.heap.size := (by have := hb.size; simp at this; omega); simp at b0 b1 b2; clear hb)))
            go_ret
            exact ⟨rfl, (Below.next h0.out HB.out (by simp)).alloc (by omega) _⟩
        · have z3t := z3
          clear z3
          have ev : cov1 (r, a, c) x = true := by simp [cov1, hg, covG, s1t, s2t, z3t]
          rw [ev]; clear ev hg
          have ts1t : (gr.toList == [42]) = true := s1t
          have ts2t : (ga.toList == [42]) = true := s2t
          clear s1t s2t
          go_enter Tryf.func14, Tryf.ntmps14
          go_wp2_with (first | (go_at_call 13; go_must (refine (grant_some x gr ga gc _ hz HG.out).mono ?_; rintro e w1 ⟨rfl, hb⟩; have HB := hide hb; have b0 := rowc (blk hb (heap_new _ _) (by simp)) 0 rfl; have b1 := rowc (blk hb (heap_new _ _) (by simp)) 1 rfl; have b2 := rowc (blk hb (heap_new _ _) (by simp)) 2 rfl; have bl : w.heap.size < w1.heap.size := (by have := hb.size; simp at this; omega); simp at b0 b1 b2; clear hb)))
          go_ret
          exact ⟨rfl, (Below.next h0.out HB.out (by simp)).alloc (by omega) _⟩

end Go.Proofs.Qxb6608620aFmt
