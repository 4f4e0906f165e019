import Derived.Test.Qxb6608620aFmtParse
import Derived.Test.Qxb6608620aFmtMem
namespace Go.Proofs.Qxb6608620aFmt
open Go.RowKit Go.Joins Go.Kit Go.Extern.Stop Go.Stop Go.Extern
set_option linter.unusedVariables false
set_option linter.unusedSimpArgs false

abbrev Tri := ByteArray × ByteArray × ByteArray
/-- does the grant g cover the permission q? -/
def covG (g q : Tri) : Bool := (isS g.1 || eqS g.1 q.1) && (isS g.2.1 || eqS g.2.1 q.2.1) && ((g.2.2.toList == []) || eqS g.2.2 q.2.2)
/-- does the text x, read as a grant, cover q? -/
def cov1 (q : Tri) (x : ByteArray) : Bool := match grantOf x with | none => false | some g => covG g q

abbrev fn22 (r a c : ByteArray) : Value := .func (.func 22) #[P3 r a c] #[]

theorem asked22 (r a c s : ByteArray) (w : World) : Calls Tryf.prog 22 #[P3 r a c, .string s] w fun e w' => e = .returned (.bool (eqS s c)) ∧ w' = w.alloc (.cells #[.string r, .string a, .string c] 54) := by
  go_enter Tryf.func22, Tryf.ntmps22
  go_wp2
  go_ret
  exact ⟨rfl, rfl⟩

set_option maxHeartbeats 4000000 in
theorem covers26 (gr ga gc r a c : ByteArray) (w : World) : Calls Tryf.prog 26 #[P3 gr ga gc, P3 r a c, fn22 r a c] w fun e w' => e = .returned (.bool (covG (gr, ga, gc) (r, a, c))) ∧ Below w.heap.size w w' := by
  cases s1 : isS gr
  · cases e1 : eqS gr r
    · have s1f := s1
      have e1f := e1
      clear s1 e1
      have ev : covG (gr, ga, gc) (r, a, c) = false := by simp [covG, s1f, e1f]
      rw [ev]; clear ev
      have ts1f : (gr.toList == [42]) = false := s1f
      have te1f : (gr.toList == r.toList) = false := e1f
      clear s1f e1f
      go_enter Tryf.func26, Tryf.ntmps26
      go_wp2_with (first | (go_at_call 22; go_must (refine (asked22 r a c gc _).mono ?_; rintro e w' ⟨rfl, hw⟩; rw [hw]; clear hw w')))
      go_ret
      exact ⟨rfl, by repeat' (first | exact Below.refl _ _ | refine below_drewN ?_ _ | refine Below.drew ?_ | refine Below.alloc ?_ ?_ _ | refine Below.setCell ?_ ?_ _ | (simp [size_drewN]; done) | (simp [size_drewN]; omega))⟩
    · have s1f := s1
      have e1t := e1
      clear s1 e1
      cases s2 : isS ga
      · cases e2 : eqS ga a
        · have s2f := s2
          have e2f := e2
          clear s2 e2
          have ev : covG (gr, ga, gc) (r, a, c) = false := by simp [covG, s1f, e1t, s2f, e2f]
          rw [ev]; clear ev
          have ts1f : (gr.toList == [42]) = false := s1f
          have te1t : (gr.toList == r.toList) = true := e1t
          have ts2f : (ga.toList == [42]) = false := s2f
          have te2f : (ga.toList == a.toList) = false := e2f
          clear s1f e1t s2f e2f
          go_enter Tryf.func26, Tryf.ntmps26
          go_wp2_with (first | (go_at_call 22; go_must (refine (asked22 r a c gc _).mono ?_; rintro e w' ⟨rfl, hw⟩; rw [hw]; clear hw w')))
          go_ret
          exact ⟨rfl, by repeat' (first | exact Below.refl _ _ | refine below_drewN ?_ _ | refine Below.drew ?_ | refine Below.alloc ?_ ?_ _ | refine Below.setCell ?_ ?_ _ | (simp [size_drewN]; done) | (simp [size_drewN]; omega))⟩
        · have s2f := s2
          have e2t := e2
          clear s2 e2
          cases z3 : (gc.toList == [])
          · cases e3 : eqS gc c
            · have z3f := z3
              have e3f := e3
              clear z3 e3
              have ev : covG (gr, ga, gc) (r, a, c) = false := by simp [covG, s1f, e1t, s2f, e2t, z3f, e3f]
              rw [ev]; clear ev
              have ts1f : (gr.toList == [42]) = false := s1f
              have te1t : (gr.toList == r.toList) = true := e1t
              have ts2f : (ga.toList == [42]) = false := s2f
              have te2t : (ga.toList == a.toList) = true := e2t
              clear s1f e1t s2f e2t
              go_enter Tryf.func26, Tryf.ntmps26
              go_wp2_with (first | (go_at_call 22; go_must (refine (asked22 r a c gc _).mono ?_; rintro e w' ⟨rfl, hw⟩; rw [hw]; clear hw w')))
              go_ret
              exact ⟨rfl, by repeat' (first | exact Below.refl _ _ | refine below_drewN ?_ _ | refine Below.drew ?_ | refine Below.alloc ?_ ?_ _ | refine Below.setCell ?_ ?_ _ | (simp [size_drewN]; done) | (simp [size_drewN]; omega))⟩
            · have z3f := z3
              have e3t := e3
              clear z3 e3
              have ev : covG (gr, ga, gc) (r, a, c) = true := by simp [covG, s1f, e1t, s2f, e2t, z3f, e3t]
              rw [ev]; clear ev
              have ts1f : (gr.toList == [42]) = false := s1f
              have te1t : (gr.toList == r.toList) = true := e1t
              have ts2f : (ga.toList == [42]) = false := s2f
              have te2t : (ga.toList == a.toList) = true := e2t
              clear s1f e1t s2f e2t
              go_enter Tryf.func26, Tryf.ntmps26
              go_wp2_with (first | (go_at_call 22; go_must (refine (asked22 r a c gc _).mono ?_; rintro e w' ⟨rfl, hw⟩; rw [hw]; clear hw w')))
              go_ret
              exact ⟨rfl, by repeat' (first | exact Below.refl _ _ | refine below_drewN ?_ _ | refine Below.drew ?_ | refine Below.alloc ?_ ?_ _ | refine Below.setCell ?_ ?_ _ | (simp [size_drewN]; done) | (simp [size_drewN]; omega))⟩
          · have z3t := z3
            clear z3
            have ev : covG (gr, ga, gc) (r, a, c) = true := by simp [covG, s1f, e1t, s2f, e2t, z3t]
            rw [ev]; clear ev
            have ts1f : (gr.toList == [42]) = false := s1f
            have te1t : (gr.toList == r.toList) = true := e1t
            have ts2f : (ga.toList == [42]) = false := s2f
            have te2t : (ga.toList == a.toList) = true := e2t
            clear s1f e1t s2f e2t
            go_enter Tryf.func26, Tryf.ntmps26
            go_wp2_with (first | (go_at_call 22; go_must (refine (asked22 r a c gc _).mono ?_; rintro e w' ⟨rfl, hw⟩; rw [hw]; clear hw w')))
            go_ret
            exact ⟨rfl, by repeat' (first | exact Below.refl _ _ | refine below_drewN ?_ _ | refine Below.drew ?_ | refine Below.alloc ?_ ?_ _ | refine Below.setCell ?_ ?_ _ | (simp [size_drewN]; done) | (simp [size_drewN]; omega))⟩
      · have s2t := s2
        clear s2
        cases z3 : (gc.toList == [])
        · cases e3 : eqS gc c
          · have z3f := z3
            have e3f := e3
            clear z3 e3
            have ev : covG (gr, ga, gc) (r, a, c) = false := by simp [covG, s1f, e1t, s2t, z3f, e3f]
            rw [ev]; clear ev
            have ts1f : (gr.toList == [42]) = false := s1f
            have te1t : (gr.toList == r.toList) = true := e1t
            have ts2t : (ga.toList == [42]) = true := s2t
            clear s1f e1t s2t
            go_enter Tryf.func26, Tryf.ntmps26
            go_wp2_with (first | (go_at_call 22; go_must (refine (asked22 r a c gc _).mono ?_; rintro e w' ⟨rfl, hw⟩; rw [hw]; clear hw w')))
            go_ret
            exact ⟨rfl, by repeat' (first | exact Below.refl _ _ | refine below_drewN ?_ _ | refine Below.drew ?_ | refine Below.alloc ?_ ?_ _ | refine Below.setCell ?_ ?_ _ | (simp [size_drewN]; done) | (simp [size_drewN]; omega))⟩
          · have z3f := z3
            have e3t := e3
            clear z3 e3
            have ev : covG (gr, ga, gc) (r, a, c) = true := by simp [covG, s1f, e1t, s2t, z3f, e3t]
            rw [ev]; clear ev
            have ts1f : (gr.toList == [42]) = false := s1f
            have te1t : (gr.toList == r.toList) = true := e1t
            have ts2t : (ga.toList == [42]) = true := s2t
            clear s1f e1t s2t
            go_enter Tryf.func26, Tryf.ntmps26
            go_wp2_with (first | (go_at_call 22; go_must (refine (asked22 r a c gc _).mono ?_; rintro e w' ⟨rfl, hw⟩; rw [hw]; clear hw w')))
            go_ret
            exact ⟨rfl, by repeat' (first | exact Below.refl _ _ | refine below_drewN ?_ _ | refine Below.drew ?_ | refine Below.alloc ?_ ?_ _ | refine Below.setCell ?_ ?_ _ | (simp [size_drewN]; done) | (simp [size_drewN]; omega))⟩
        · have z3t := z3
          clear z3
          have ev : covG (gr, ga, gc) (r, a, c) = true := by simp [covG, s1f, e1t, s2t, z3t]
          rw [ev]; clear ev
          have ts1f : (gr.toList == [42]) = false := s1f
          have te1t : (gr.toList == r.toList) = true := e1t
          have ts2t : (ga.toList == [42]) = true := s2t
          clear s1f e1t s2t
          go_enter Tryf.func26, Tryf.ntmps26
          go_wp2_with (first | (go_at_call 22; go_must (refine (asked22 r a c gc _).mono ?_; rintro e w' ⟨rfl, hw⟩; rw [hw]; clear hw w')))
          go_ret
          exact ⟨rfl, by repeat' (first | exact Below.refl _ _ | refine below_drewN ?_ _ | refine Below.drew ?_ | refine Below.alloc ?_ ?_ _ | refine Below.setCell ?_ ?_ _ | (simp [size_drewN]; done) | (simp [size_drewN]; omega))⟩
  · have s1t := s1
    clear s1
    cases s2 : isS ga
    · cases e2 : eqS ga a
      · have s2f := s2
        have e2f := e2
        clear s2 e2
        have ev : covG (gr, ga, gc) (r, a, c) = false := by simp [covG, s1t, s2f, e2f]
        rw [ev]; clear ev
        have ts1t : (gr.toList == [42]) = true := s1t
        have ts2f : (ga.toList == [42]) = false := s2f
        have te2f : (ga.toList == a.toList) = false := e2f
        clear s1t s2f e2f
        go_enter Tryf.func26, Tryf.ntmps26
        go_wp2_with (first | (go_at_call 22; go_must (refine (asked22 r a c gc _).mono ?_; rintro e w' ⟨rfl, hw⟩; rw [hw]; clear hw w')))
        go_ret
        exact ⟨rfl, by repeat' (first | exact Below.refl _ _ | refine below_drewN ?_ _ | refine Below.drew ?_ | refine Below.alloc ?_ ?_ _ | refine Below.setCell ?_ ?_ _ | (simp [size_drewN]; done) | (simp [size_drewN]; omega))⟩
      · have s2f := s2
        have e2t := e2
        clear s2 e2
        cases z3 : (gc.toList == [])
        · cases e3 : eqS gc c
          · have z3f := z3
            have e3f := e3
            clear z3 e3
            have ev : covG (gr, ga, gc) (r, a, c) = false := by simp [covG, s1t, s2f, e2t, z3f, e3f]
            rw [ev]; clear ev
            have ts1t : (gr.toList == [42]) = true := s1t
            have ts2f : (ga.toList == [42]) = false := s2f
            have te2t : (ga.toList == a.toList) = true := e2t
            clear s1t s2f e2t
            go_enter Tryf.func26, Tryf.ntmps26
            go_wp2_with (first | (go_at_call 22; go_must (refine (asked22 r a c gc _).mono ?_; rintro e w' ⟨rfl, hw⟩; rw [hw]; clear hw w')))
            go_ret
            exact ⟨rfl, by repeat' (first | exact Below.refl _ _ | refine below_drewN ?_ _ | refine Below.drew ?_ | refine Below.alloc ?_ ?_ _ | refine Below.setCell ?_ ?_ _ | (simp [size_drewN]; done) | (simp [size_drewN]; omega))⟩
          · have z3f := z3
            have e3t := e3
            clear z3 e3
            have ev : covG (gr, ga, gc) (r, a, c) = true := by simp [covG, s1t, s2f, e2t, z3f, e3t]
            rw [ev]; clear ev
            have ts1t : (gr.toList == [42]) = true := s1t
            have ts2f : (ga.toList == [42]) = false := s2f
            have te2t : (ga.toList == a.toList) = true := e2t
            clear s1t s2f e2t
            go_enter Tryf.func26, Tryf.ntmps26
            go_wp2_with (first | (go_at_call 22; go_must (refine (asked22 r a c gc _).mono ?_; rintro e w' ⟨rfl, hw⟩; rw [hw]; clear hw w')))
            go_ret
            exact ⟨rfl, by repeat' (first | exact Below.refl _ _ | refine below_drewN ?_ _ | refine Below.drew ?_ | refine Below.alloc ?_ ?_ _ | refine Below.setCell ?_ ?_ _ | (simp [size_drewN]; done) | (simp [size_drewN]; omega))⟩
        · have z3t := z3
          clear z3
          have ev : covG (gr, ga, gc) (r, a, c) = true := by simp [covG, s1t, s2f, e2t, z3t]
          rw [ev]; clear ev
          have ts1t : (gr.toList == [42]) = true := s1t
          have ts2f : (ga.toList == [42]) = false := s2f
          have te2t : (ga.toList == a.toList) = true := e2t
          clear s1t s2f e2t
          go_enter Tryf.func26, Tryf.ntmps26
          go_wp2_with (first | (go_at_call 22; go_must (refine (asked22 r a c gc _).mono ?_; rintro e w' ⟨rfl, hw⟩; rw [hw]; clear hw w')))
          go_ret
          exact ⟨rfl, by repeat' (first | exact Below.refl _ _ | refine below_drewN ?_ _ | refine Below.drew ?_ | refine Below.alloc ?_ ?_ _ | refine Below.setCell ?_ ?_ _ | (simp [size_drewN]; done) | (simp [size_drewN]; omega))⟩
    · have s2t := s2
      clear s2
      cases z3 : (gc.toList == [])
      · cases e3 : eqS gc c
        · have z3f := z3
          have e3f := e3
          clear z3 e3
          have ev : covG (gr, ga, gc) (r, a, c) = false := by simp [covG, s1t, s2t, z3f, e3f]
          rw [ev]; clear ev
          have ts1t : (gr.toList == [42]) = true := s1t
          have ts2t : (ga.toList == [42]) = true := s2t
          clear s1t s2t
          go_enter Tryf.func26, Tryf.ntmps26
          go_wp2_with (first | (go_at_call 22; go_must (refine (asked22 r a c gc _).mono ?_; rintro e w' ⟨rfl, hw⟩; rw [hw]; clear hw w')))
          go_ret
          exact ⟨rfl, by repeat' (first | exact Below.refl _ _ | refine below_drewN ?_ _ | refine Below.drew ?_ | refine Below.alloc ?_ ?_ _ | refine Below.setCell ?_ ?_ _ | (simp [size_drewN]; done) | (simp [size_drewN]; omega))⟩
        · have z3f := z3
          have e3t := e3
          clear z3 e3
          have ev : covG (gr, ga, gc) (r, a, c) = true := by simp [covG, s1t, s2t, z3f, e3t]
          rw [ev]; clear ev
          have ts1t : (gr.toList == [42]) = true := s1t
          have ts2t : (ga.toList == [42]) = true := s2t
          clear s1t s2t
          go_enter Tryf.func26, Tryf.ntmps26
          go_wp2_with (first | (go_at_call 22; go_must (refine (asked22 r a c gc _).mono ?_; rintro e w' ⟨rfl, hw⟩; rw [hw]; clear hw w')))
          go_ret
          exact ⟨rfl, by repeat' (first | exact Below.refl _ _ | refine below_drewN ?_ _ | refine Below.drew ?_ | refine Below.alloc ?_ ?_ _ | refine Below.setCell ?_ ?_ _ | (simp [size_drewN]; done) | (simp [size_drewN]; omega))⟩
      · have z3t := z3
        clear z3
        have ev : covG (gr, ga, gc) (r, a, c) = true := by simp [covG, s1t, s2t, z3t]
        rw [ev]; clear ev
        have ts1t : (gr.toList == [42]) = true := s1t
        have ts2t : (ga.toList == [42]) = true := s2t
        clear s1t s2t
        go_enter Tryf.func26, Tryf.ntmps26
        go_wp2_with (first | (go_at_call 22; go_must (refine (asked22 r a c gc _).mono ?_; rintro e w' ⟨rfl, hw⟩; rw [hw]; clear hw w')))
        go_ret
        exact ⟨rfl, by repeat' (first | exact Below.refl _ _ | refine below_drewN ?_ _ | refine Below.drew ?_ | refine Below.alloc ?_ ?_ _ | refine Below.setCell ?_ ?_ _ | (simp [size_drewN]; done) | (simp [size_drewN]; omega))⟩

end Go.Proofs.Qxb6608620aFmt
