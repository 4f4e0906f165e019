import Derived.Test.Qxb6608620aFmtPol
import Derived.Test.Qxb6608620aFmtCheck
import Derived.Test.Qxb6608620aFmtBytes
import Derived.Test.Qxb6608620aFmtGrown
namespace Go.Proofs.Qxb6608620aFmt
open Go.RowKit Go.Joins Go.Kit Go.Extern.Stop Go.Stop Go.Extern
set_option linter.unusedVariables false
set_option linter.unusedSimpArgs false

set_option maxRecDepth 100000 in
set_option maxHeartbeats 16000000 in
theorem child_out (a a2 a3 : Option Addr) (n n2 n3 c c2 c3 : Nat) (K : Nat → ByteArray) (Z : Nat → List Int) (G : Nat → List ByteArray) (t : Int) (p : ByteArray) (w : World)
    (hr : Sl w a n (fun i => .string (K i))) (hr2 : Rws w a2 n2 (fun i => (Z i).map (Value.int .i64))) (hr3 : Rws w a3 n3 (fun i => strs (G i))) (hout : ¬ (n ≤ 65536 ∧ p.size ≤ 65536 ∧ n2 = n ∧ n3 = n ∧ 0 ≤ t ∧ t < n)) :
    Calls Tryf.prog 4 #[.slice a n c, .slice a2 n2 c2, .slice a3 n3 c3, .int .i64 t, .string p] w fun e w' => e = .returned (.bool true) ∧ Below w.heap.size w w' := by
  have HR := hide hr
  have HR2 := hide hr2
  have HR3 := hide hr3
  have HO := hide hout
  clear hr hr2 hr3 hout
  go_enter Tryf.func4, Tryf.ntmps4
  go_wp2_with (first | (go_at_call 15; go_must (refine (bytes15 a n c K a2 n2 c2 _ a3 n3 c3 G t p _ HR.out HR2.out HR3.out).mono ?_; rintro e w' ⟨(rfl | ⟨rfl, hS, hp⟩), hw⟩ <;> rw [hw] <;> clear hw w')) | (go_at_call 8; go_must (refine (strs8 a n c K p.size _ hS.b1 hS.bk (by omega) (by omega) HR.out).mono ?_; rintro e w' ⟨⟨r8, r8a, r8b, rfl⟩, hw⟩; rw [hw]; clear hw w')) | (go_at_call 7; go_must (refine (ints7 a2 n2 c2 _ r8 _ hS.b2 r8a r8b HR2.out).mono ?_; rintro e w' ⟨⟨r7, r7a, r7b, rfl⟩, hw⟩; rw [hw]; clear hw w')) | (go_at_call 6; go_must (refine (rows6 a3 n3 c3 G r7 _ hS.b3 (fun i hi => (hS.bg i hi).1) (fun i hi => (hS.bg i hi).2) r7a r7b HR3.out).mono ?_; rintro e w' ⟨⟨r6, r6a, r6b, rfl⟩, hw⟩; rw [hw]; clear hw w')) | (go_at_call 9; go_must (refine (keys9 a n c K _ hS.b1 hS.bk HR.out).mono ?_; rintro e w1 ⟨(rfl | ⟨rfl, hAp⟩), hb⟩ <;> (have HB1 := hide hb; clear hb))) | (go_at_call 10; go_must (refine (fit10 a2 n2 c2 n Z _ hS.b2 hS.b1 (fun i hi => by have := hS.bx i hi; simpa using this) (HR2.out.later HB1.out (Nat.le_refl _))).mono ?_; rintro e w' ⟨(rfl | ⟨rfl, hfit⟩), hw⟩ <;> rw [hw] <;> clear hw w')))
  all_goals first | (go_ret; exact ⟨rfl, Below.refl _ _⟩) | (go_ret; exact ⟨rfl, HB1.out⟩) | (exfalso; apply HO.out; omega)
end Go.Proofs.Qxb6608620aFmt
