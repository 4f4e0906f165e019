import Derived.Test.Qxb6608620aFmtPol
import Derived.Test.Qxb6608620aFmtCheck
import Derived.Test.Qxb6608620aFmtBytes5
import Derived.Test.Qxb6608620aFmtGrown
import Derived.Test.Qxb6608620aFmtBfs
import Derived.Test.Qxb6608620aFmtGc
namespace Go.Proofs.Qxb6608620aFmt
open Go.RowKit Go.Joins Go.Kit Go.Extern.Stop Go.Stop Go.Extern
set_option linter.unusedVariables false
set_option linter.unusedSimpArgs false

set_option maxRecDepth 100000 in
set_option maxHeartbeats 32000000 in
theorem ans_out (F : Interp) (a a2 a3 : Option Addr) (n n2 n3 c c2 c3 : Nat) (K : Nat → ByteArray) (Z : Nat → List Int) (G : Nat → List ByteArray) (tm p : ByteArray) (w : World)
    (hr : Sl w a n (fun i => .string (K i))) (hr2 : Rws w a2 n2 (fun i => (Z i).map (Value.int .i64))) (hr3 : Rws w a3 n3 (fun i => strs (G i))) (hout : ¬ (n ≤ 65536 ∧ tm.size ≤ 65536 ∧ p.size ≤ 65536 ∧ n2 = n ∧ n3 = n)) :
    Calls Tryf.prog 3 #[.slice a n c, .slice a2 n2 c2, .slice a3 n3 c3, .string tm, .string p] w fun e w' => e = .returned (.bool true) ∧ Below w.heap.size w w' := by
  have HR := hide hr
  have HR2 := hide hr2
  have HR3 := hide hr3
  have HO := hide hout
  clear hr hr2 hr3 hout
  go_enter Tryf.func3, Tryf.ntmps3
  go_wp2_with (first | (go_at_call 5; go_must (refine (bytes5 a n c K a2 n2 c2 _ a3 n3 c3 G tm p _ HR.out HR2.out HR3.out).mono ?_; rintro e w' ⟨(rfl | ⟨rfl, hS, ht, hp⟩), hw⟩ <;> rw [hw] <;> clear hw w')) | (go_at_call 8; go_must (refine (strs8 a n c K _ _ hS.b1 hS.bk (by omega) (by omega) HR.out).mono ?_; rintro e w' ⟨⟨r8, r8a, r8b, rfl⟩, hw⟩; rw [hw]; clear hw w')) | (go_at_call 7; go_must (refine (ints7 a2 n2 c2 _ r8 _ hS.b2 r8a r8b HR2.out).mono ?_; rintro e w' ⟨⟨r7, r7a, r7b, rfl⟩, hw⟩; rw [hw]; clear hw w')) | (go_at_call 6; go_must (refine (rows6 a3 n3 c3 G r7 _ hS.b3 (fun i hi => (hS.bg i hi).1) (fun i hi => (hS.bg i hi).2) r7a r7b HR3.out).mono ?_; rintro e w' ⟨⟨r6, r6a, r6b, rfl⟩, hw⟩; rw [hw]; clear hw w')) | (go_at_call 9; go_must (refine (keys9 a n c K _ hS.b1 hS.bk HR.out).mono ?_; rintro e w1 ⟨(rfl | ⟨rfl, hAp⟩), hb⟩ <;> (have HB1 := hide hb; clear hb))) | (go_at_call 10; go_must (refine (fit10 a2 n2 c2 n Z _ hS.b2 hS.b1 (fun i hi => by have := hS.bx i hi; simpa using this) (HR2.out.later HB1.out (Nat.le_refl _))).mono ?_; rintro e w' ⟨(rfl | ⟨rfl, hfit⟩), hw⟩ <;> rw [hw] <;> clear hw w')))
  all_goals first | (go_ret; exact ⟨rfl, Below.refl _ _⟩) | (go_ret; exact ⟨rfl, HB1.out⟩) | (exfalso; apply HO.out; omega)

set_option maxRecDepth 100000 in
set_option maxHeartbeats 32000000 in
theorem ans_bad (F : Interp) (a a2 a3 : Option Addr) (n c c2 c3 : Nat) (K : Nat → ByteArray) (Z : Nat → List Int) (G : Nat → List ByteArray) (tm p : ByteArray) (w : World) (hF : F.answers w.tape)
    (hr : Sl w a n (fun i => .string (K i))) (hr2 : Rws w a2 n (fun i => (Z i).map (Value.int .i64))) (hr3 : Rws w a3 n (fun i => strs (G i))) (hn : n ≤ 65536) (ht0 : tm.size ≤ 65536) (hp0 : p.size ≤ 65536) (hq : permOf p = none) :
    Calls Tryf.prog 3 #[.slice a n c, .slice a2 n c2, .slice a3 n c3, .string tm, .string p] w fun e w' => e = .returned (.bool true) ∧ Below w.heap.size w w' := by
  have HR := hide hr
  have HR2 := hide hr2
  have HR3 := hide hr3
  have HF := hide hF
  clear hr hr2 hr3 hF
  have d1 : ¬ ((65536 : Int) < (n : Int)) := by omega
  have d2 : ¬ ((65536 : Int) < (p.size : Int)) := by omega
  have d3 : ¬ ((65536 : Int) < (tm.size : Int)) := by omega
  have HQ := hide hq
  clear hq
  cases hgo : grantOf p with
  | none =>
    have HGo := hide hgo
    clear hgo
    go_enter Tryf.func3, Tryf.ntmps3
    go_wp2_with (first | (go_at_call 5; go_must (refine (bytes5 a n c K a2 n c2 _ a3 n c3 G tm p _ HR.out HR2.out HR3.out).mono ?_; rintro e w' ⟨(rfl | ⟨rfl, hS, ht, hp⟩), hw⟩ <;> rw [hw] <;> clear hw w')) | (go_at_call 8; go_must (refine (strs8 a n c K _ _ hS.b1 hS.bk (by omega) (by omega) HR.out).mono ?_; rintro e w' ⟨⟨r8, r8a, r8b, rfl⟩, hw⟩; rw [hw]; clear hw w')) | (go_at_call 7; go_must (refine (ints7 a2 n c2 _ r8 _ hS.b2 r8a r8b HR2.out).mono ?_; rintro e w' ⟨⟨r7, r7a, r7b, rfl⟩, hw⟩; rw [hw]; clear hw w')) | (go_at_call 6; go_must (refine (rows6 a3 n c3 G r7 _ hS.b3 (fun i hi => (hS.bg i hi).1) (fun i hi => (hS.bg i hi).2) r7a r7b HR3.out).mono ?_; rintro e w' ⟨⟨r6, r6a, r6b, rfl⟩, hw⟩; rw [hw]; clear hw w'; by_cases d7 : (1048576 : Int) < r6)) | (go_at_call 9; go_must (refine (keys9 a n c K _ hS.b1 hS.bk HR.out).mono ?_; rintro e w1 ⟨(rfl | ⟨rfl, hAp⟩), hb⟩ <;> (have HB1 := hide hb; clear hb))) | (go_at_call 10; go_must (refine (fit10 a2 n c2 n Z _ hS.b2 hS.b1 (fun i hi => by have := hS.bx i hi; simpa using this) (HR2.out.later HB1.out (Nat.le_refl _))).mono ?_; rintro e w' ⟨(rfl | ⟨rfl, hfit⟩), hw⟩ <;> rw [hw] <;> clear hw w')) | (go_at_call 11; go_must (refine (pol11 a a2 a3 n c c2 c3 K (EZ Z) G _ (by omega) (fun j hj => by have := hS.bk j hj; omega) hAp (fun j hj => by rw [len_EZ]; have := hS.bx j hj; simpa using this) (fun j hj => (hS.bg j hj).1) (HR.out.later HB1.out (Nat.le_refl _)) ((Rws.nats HR2.out hfit).later HB1.out (Nat.le_refl _)) (HR3.out.later HB1.out (Nat.le_refl _))).mono ?_; rintro e w4 ⟨⟨pp, hP1, rfl⟩, hb⟩; have HP1 := hide hP1; have HB4 : Hid (Below w.heap.size w w4) := Below.next HB1.out hb HB1.out.size; have HT4 : Hid (F.answers w4.tape) := (by rw [HB4.out.tape]; exact HF.out); clear hP1 hb)) | (go_at_call 12; go_must (refine (chk_bad F _ n K (EZ Z) G _ p _ HT4.out (by omega) HQ.out).mono ?_; rintro e w6 ⟨⟨z1, rfl⟩, hb⟩; have HB6 : Hid (Below w.heap.size w w6) := Below.next HB4.out hb HB4.out.size; have HT6 : Hid (F.answers w6.tape) := (by rw [HB6.out.tape]; exact HF.out); clear hb)) | (go_at_call 13; go_must (refine (grant_none F p _ HT6.out (by omega) HGo.out).mono ?_; rintro e w7 ⟨⟨z5, rfl⟩, hb⟩; have HB7 : Hid (Below w.heap.size w w7) := Below.next HB6.out hb HB6.out.size; have HT7 : Hid (F.answers w7.tape) := (by rw [HB7.out.tape]; exact HF.out); clear hb)))
    all_goals first | (go_ret; exact ⟨rfl, Below.refl _ _⟩) | (go_ret; exact ⟨rfl, HB1.out⟩) | (go_ret; exact ⟨rfl, HB7.out.alloc HB7.out.size _⟩)
  | some g =>
    obtain ⟨gr, ga, gc⟩ := g
    have HGo := hide hgo
    have hst : isS gr = true ∨ (isS gr = false ∧ isS ga = true) := by
      cases e1 : isS gr
      · cases e2 : isS ga
        · have e3 := perm_of_grant hgo e1 e2
          rw [HQ.out] at e3
          cases e3
        · exact .inr ⟨rfl, rfl⟩
      · exact .inl rfl
    clear hgo
    rcases hst with t1 | ⟨t1, t2⟩
    · have u1 : (gr.toList == [42]) = true := t1
      clear t1
      go_enter Tryf.func3, Tryf.ntmps3
      go_wp2_with (first | (go_at_call 5; go_must (refine (bytes5 a n c K a2 n c2 _ a3 n c3 G tm p _ HR.out HR2.out HR3.out).mono ?_; rintro e w' ⟨(rfl | ⟨rfl, hS, ht, hp⟩), hw⟩ <;> rw [hw] <;> clear hw w')) | (go_at_call 8; go_must (refine (strs8 a n c K _ _ hS.b1 hS.bk (by omega) (by omega) HR.out).mono ?_; rintro e w' ⟨⟨r8, r8a, r8b, rfl⟩, hw⟩; rw [hw]; clear hw w')) | (go_at_call 7; go_must (refine (ints7 a2 n c2 _ r8 _ hS.b2 r8a r8b HR2.out).mono ?_; rintro e w' ⟨⟨r7, r7a, r7b, rfl⟩, hw⟩; rw [hw]; clear hw w')) | (go_at_call 6; go_must (refine (rows6 a3 n c3 G r7 _ hS.b3 (fun i hi => (hS.bg i hi).1) (fun i hi => (hS.bg i hi).2) r7a r7b HR3.out).mono ?_; rintro e w' ⟨⟨r6, r6a, r6b, rfl⟩, hw⟩; rw [hw]; clear hw w'; by_cases d7 : (1048576 : Int) < r6)) | (go_at_call 9; go_must (refine (keys9 a n c K _ hS.b1 hS.bk HR.out).mono ?_; rintro e w1 ⟨(rfl | ⟨rfl, hAp⟩), hb⟩ <;> (have HB1 := hide hb; clear hb))) | (go_at_call 10; go_must (refine (fit10 a2 n c2 n Z _ hS.b2 hS.b1 (fun i hi => by have := hS.bx i hi; simpa using this) (HR2.out.later HB1.out (Nat.le_refl _))).mono ?_; rintro e w' ⟨(rfl | ⟨rfl, hfit⟩), hw⟩ <;> rw [hw] <;> clear hw w')) | (go_at_call 11; go_must (refine (pol11 a a2 a3 n c c2 c3 K (EZ Z) G _ (by omega) (fun j hj => by have := hS.bk j hj; omega) hAp (fun j hj => by rw [len_EZ]; have := hS.bx j hj; simpa using this) (fun j hj => (hS.bg j hj).1) (HR.out.later HB1.out (Nat.le_refl _)) ((Rws.nats HR2.out hfit).later HB1.out (Nat.le_refl _)) (HR3.out.later HB1.out (Nat.le_refl _))).mono ?_; rintro e w4 ⟨⟨pp, hP1, rfl⟩, hb⟩; have HP1 := hide hP1; have HB4 : Hid (Below w.heap.size w w4) := Below.next HB1.out hb HB1.out.size; have HT4 : Hid (F.answers w4.tape) := (by rw [HB4.out.tape]; exact HF.out); clear hP1 hb)) | (go_at_call 12; go_must (refine (chk_bad F _ n K (EZ Z) G _ p _ HT4.out (by omega) HQ.out).mono ?_; rintro e w6 ⟨⟨z1, rfl⟩, hb⟩; have HB6 : Hid (Below w.heap.size w w6) := Below.next HB4.out hb HB4.out.size; have HT6 : Hid (F.answers w6.tape) := (by rw [HB6.out.tape]; exact HF.out); clear hb)) | (go_at_call 13; go_must (refine (grant_some p gr ga gc _ (by omega) HGo.out).mono ?_; rintro e w7 ⟨rfl, hb⟩; have HB7 : Hid (Below w.heap.size w w7) := Below.next HB6.out hb HB6.out.size; have HT7 : Hid (F.answers w7.tape) := (by rw [HB7.out.tape]; exact HF.out); clear hb)))
      all_goals first | (go_ret; exact ⟨rfl, Below.refl _ _⟩) | (go_ret; exact ⟨rfl, HB1.out⟩) | (go_ret; exact ⟨rfl, HB7.out.alloc HB7.out.size _⟩)
    · have u1 : (gr.toList == [42]) = false := t1
      have u2 : (ga.toList == [42]) = true := t2
      clear t1 t2
      go_enter Tryf.func3, Tryf.ntmps3
      go_wp2_with (first | (go_at_call 5; go_must (refine (bytes5 a n c K a2 n c2 _ a3 n c3 G tm p _ HR.out HR2.out HR3.out).mono ?_; rintro e w' ⟨(rfl | ⟨rfl, hS, ht, hp⟩), hw⟩ <;> rw [hw] <;> clear hw w')) | (go_at_call 8; go_must (refine (strs8 a n c K _ _ hS.b1 hS.bk (by omega) (by omega) HR.out).mono ?_; rintro e w' ⟨⟨r8, r8a, r8b, rfl⟩, hw⟩; rw [hw]; clear hw w')) | (go_at_call 7; go_must (refine (ints7 a2 n c2 _ r8 _ hS.b2 r8a r8b HR2.out).mono ?_; rintro e w' ⟨⟨r7, r7a, r7b, rfl⟩, hw⟩; rw [hw]; clear hw w')) | (go_at_call 6; go_must (refine (rows6 a3 n c3 G r7 _ hS.b3 (fun i hi => (hS.bg i hi).1) (fun i hi => (hS.bg i hi).2) r7a r7b HR3.out).mono ?_; rintro e w' ⟨⟨r6, r6a, r6b, rfl⟩, hw⟩; rw [hw]; clear hw w'; by_cases d7 : (1048576 : Int) < r6)) | (go_at_call 9; go_must (refine (keys9 a n c K _ hS.b1 hS.bk HR.out).mono ?_; rintro e w1 ⟨(rfl | ⟨rfl, hAp⟩), hb⟩ <;> (have HB1 := hide hb; clear hb))) | (go_at_call 10; go_must (refine (fit10 a2 n c2 n Z _ hS.b2 hS.b1 (fun i hi => by have := hS.bx i hi; simpa using this) (HR2.out.later HB1.out (Nat.le_refl _))).mono ?_; rintro e w' ⟨(rfl | ⟨rfl, hfit⟩), hw⟩ <;> rw [hw] <;> clear hw w')) | (go_at_call 11; go_must (refine (pol11 a a2 a3 n c c2 c3 K (EZ Z) G _ (by omega) (fun j hj => by have := hS.bk j hj; omega) hAp (fun j hj => by rw [len_EZ]; have := hS.bx j hj; simpa using this) (fun j hj => (hS.bg j hj).1) (HR.out.later HB1.out (Nat.le_refl _)) ((Rws.nats HR2.out hfit).later HB1.out (Nat.le_refl _)) (HR3.out.later HB1.out (Nat.le_refl _))).mono ?_; rintro e w4 ⟨⟨pp, hP1, rfl⟩, hb⟩; have HP1 := hide hP1; have HB4 : Hid (Below w.heap.size w w4) := Below.next HB1.out hb HB1.out.size; have HT4 : Hid (F.answers w4.tape) := (by rw [HB4.out.tape]; exact HF.out); clear hP1 hb)) | (go_at_call 12; go_must (refine (chk_bad F _ n K (EZ Z) G _ p _ HT4.out (by omega) HQ.out).mono ?_; rintro e w6 ⟨⟨z1, rfl⟩, hb⟩; have HB6 : Hid (Below w.heap.size w w6) := Below.next HB4.out hb HB4.out.size; have HT6 : Hid (F.answers w6.tape) := (by rw [HB6.out.tape]; exact HF.out); clear hb)) | (go_at_call 13; go_must (refine (grant_some p gr ga gc _ (by omega) HGo.out).mono ?_; rintro e w7 ⟨rfl, hb⟩; have HB7 : Hid (Below w.heap.size w w7) := Below.next HB6.out hb HB6.out.size; have HT7 : Hid (F.answers w7.tape) := (by rw [HB7.out.tape]; exact HF.out); clear hb)))
      all_goals first | (go_ret; exact ⟨rfl, Below.refl _ _⟩) | (go_ret; exact ⟨rfl, HB1.out⟩) | (go_ret; exact ⟨rfl, HB7.out.alloc HB7.out.size _⟩)

set_option maxRecDepth 100000 in
set_option maxHeartbeats 32000000 in
theorem ans_miss (F : Interp) (a a2 a3 : Option Addr) (n c c2 c3 : Nat) (K : Nat → ByteArray) (Z : Nat → List Int) (G : Nat → List ByteArray) (tm p : ByteArray) (w : World) (hF : F.answers w.tape)
    (hr : Sl w a n (fun i => .string (K i))) (hr2 : Rws w a2 n (fun i => (Z i).map (Value.int .i64))) (hr3 : Rws w a3 n (fun i => strs (G i))) (hn : n ≤ 65536) (ht0 : tm.size ≤ 65536) (hp0 : p.size ≤ 65536) (r a0 c0 : ByteArray) (hq : permOf p = some (r, a0, c0)) (hms : ∀ i, i < n → tm ≠ K i) :
    Calls Tryf.prog 3 #[.slice a n c, .slice a2 n c2, .slice a3 n c3, .string tm, .string p] w fun e w' => e = .returned (.bool true) ∧ Below w.heap.size w w' := by
  have HR := hide hr
  have HR2 := hide hr2
  have HR3 := hide hr3
  have HF := hide hF
  clear hr hr2 hr3 hF
  have d1 : ¬ ((65536 : Int) < (n : Int)) := by omega
  have d2 : ¬ ((65536 : Int) < (p.size : Int)) := by omega
  have d3 : ¬ ((65536 : Int) < (tm.size : Int)) := by omega
  obtain ⟨hgo, t1, t2⟩ := grant_of_perm hq
  have HQ := hide hq
  have HGo := hide hgo
  have u1 : (r.toList == [42]) = false := t1
  have u2 : (a0.toList == [42]) = false := t2
  clear hq hgo t1 t2
  have HMs := hide hms
  clear hms
  go_enter Tryf.func3, Tryf.ntmps3
  go_wp2_with (first | (go_at_call 5; go_must (refine (bytes5 a n c K a2 n c2 _ a3 n c3 G tm p _ HR.out HR2.out HR3.out).mono ?_; rintro e w' ⟨(rfl | ⟨rfl, hS, ht, hp⟩), hw⟩ <;> rw [hw] <;> clear hw w')) | (go_at_call 8; go_must (refine (strs8 a n c K _ _ hS.b1 hS.bk (by omega) (by omega) HR.out).mono ?_; rintro e w' ⟨⟨r8, r8a, r8b, rfl⟩, hw⟩; rw [hw]; clear hw w')) | (go_at_call 7; go_must (refine (ints7 a2 n c2 _ r8 _ hS.b2 r8a r8b HR2.out).mono ?_; rintro e w' ⟨⟨r7, r7a, r7b, rfl⟩, hw⟩; rw [hw]; clear hw w')) | (go_at_call 6; go_must (refine (rows6 a3 n c3 G r7 _ hS.b3 (fun i hi => (hS.bg i hi).1) (fun i hi => (hS.bg i hi).2) r7a r7b HR3.out).mono ?_; rintro e w' ⟨⟨r6, r6a, r6b, rfl⟩, hw⟩; rw [hw]; clear hw w'; by_cases d7 : (1048576 : Int) < r6)) | (go_at_call 9; go_must (refine (keys9 a n c K _ hS.b1 hS.bk HR.out).mono ?_; rintro e w1 ⟨(rfl | ⟨rfl, hAp⟩), hb⟩ <;> (have HB1 := hide hb; clear hb))) | (go_at_call 10; go_must (refine (fit10 a2 n c2 n Z _ hS.b2 hS.b1 (fun i hi => by have := hS.bx i hi; simpa using this) (HR2.out.later HB1.out (Nat.le_refl _))).mono ?_; rintro e w' ⟨(rfl | ⟨rfl, hfit⟩), hw⟩ <;> rw [hw] <;> clear hw w')) | (go_at_call 11; go_must (refine (pol11 a a2 a3 n c c2 c3 K (EZ Z) G _ (by omega) (fun j hj => by have := hS.bk j hj; omega) hAp (fun j hj => by rw [len_EZ]; have := hS.bx j hj; simpa using this) (fun j hj => (hS.bg j hj).1) (HR.out.later HB1.out (Nat.le_refl _)) ((Rws.nats HR2.out hfit).later HB1.out (Nat.le_refl _)) (HR3.out.later HB1.out (Nat.le_refl _))).mono ?_; rintro e w4 ⟨⟨pp, hP1, rfl⟩, hb⟩; have HP1 := hide hP1; have HB4 : Hid (Below w.heap.size w w4) := Below.next HB1.out hb HB1.out.size; have HT4 : Hid (F.answers w4.tape) := (by rw [HB4.out.tape]; exact HF.out); clear hP1 hb)) | (go_at_call 12; go_must (refine (chk_miss F _ n K (EZ Z) G _ p r a0 c0 _ HT4.out HP1.out (by omega) (by omega) HQ.out HMs.out).mono ?_; rintro e w6 ⟨⟨z1, rfl⟩, hb⟩; have HB6 : Hid (Below w.heap.size w w6) := Below.next HB4.out hb HB4.out.size; have HT6 : Hid (F.answers w6.tape) := (by rw [HB6.out.tape]; exact HF.out); clear hb)) | (go_at_call 13; go_must (refine (grant_some p r a0 c0 _ (by omega) HGo.out).mono ?_; rintro e w7 ⟨rfl, hb⟩; have HB7 : Hid (Below w.heap.size w w7) := Below.next HB6.out hb HB6.out.size; have HT7 : Hid (F.answers w7.tape) := (by rw [HB7.out.tape]; exact HF.out); clear hb)))
  all_goals first | (go_ret; exact ⟨rfl, Below.refl _ _⟩) | (go_ret; exact ⟨rfl, HB1.out⟩) | (go_ret; exact ⟨rfl, HB7.out.alloc HB7.out.size _⟩) | skip
  have HRa : Hid (Sl (w7.alloc (.cells #[.string r, .string a0, .string c0] 38)) a n (fun i => .string (K i))) := HR.out.later (HB7.out.alloc HB7.out.size _) (Nat.le_refl _)
  go_loop [17, 18] (fun t j => ∃ k : Nat, k ≤ n ∧ j = .int .i64 k ∧ t = .int .i64 (-1)) (fun _ j => n - (intOf j).toNat)
  case atStart => exact ⟨0, Nat.zero_le _, rfl, rfl⟩
  case round =>
    obtain ⟨k, hk, rfl, rfl⟩ := hrel
    by_cases hlt : k < n
    · obtain ⟨b, o, ha, hc⟩ := HRa.out k hlt
      have t3 : ((K k).toList == tm.toList) = false := eqS_ne (fun e => HMs.out k hlt e.symm)
      subst ha
      go_wp2
      go_round
      case rel => exact ⟨k + 1, by omega, by go_num, rfl⟩
      case measure => simp [intOf]; omega
    · have hkn : k = n := by omega
      subst hkn
      go_wp2
      go_ret
      exact ⟨rfl, HB7.out.alloc HB7.out.size _⟩
end Go.Proofs.Qxb6608620aFmt
