import Derived.Test.Qxb6608618aFmtSteps
namespace Go.Proofs.Qxb6608618aFmt
open Go.RowKit Go.Joins Go.Kit Go.Extern.Stop Go.Stop Go.Extern
set_option linter.unusedVariables false
set_option linter.unusedSimpArgs false

theorem val_zero {v : ByteArray} (h0 : (v.toList == []) = false) : val (⟨#[48]⟩ ++ v) = val v := by
  have h1 : (⟨#[48]⟩ ++ v : ByteArray).data.toList = 48 :: v.data.toList := by simp
  have h2 : ((⟨#[48]⟩ ++ v : ByteArray).toList == []) = false := by rw [tl_nil, h1]; rfl
  rw [val_of_M h2 rfl, val_of_M h0 rfl, h1]
  congr 1

theorem ans_zero {v : ByteArray} (mx : Int) (h0 : (v.toList == []) = false) : ans (⟨#[48]⟩ ++ v) mx = ans v mx := by
  unfold ans
  rw [val_zero h0]

theorem ans_stray {g : ByteArray} (mx : Int) (c : UInt8) (hm : c ∈ g.data.toList) (hc : isD c = false) : ans g mx = none := by
  unfold ans
  cases hv : val g with
  | none => rfl
  | some u =>
    have := (val_digits hv).2
    rw [List.all_eq_true] at this
    rw [this c hm] at hc
    cases hc

theorem neq30 (p : ByteArray) (u h s n : Int) (m : ByteArray) (f : Int) (w : World) :
    (binOp .neq 30 (.agg (Q7 p u h s n m f)) (.agg (Q7 p u h s n m f))).run Tryf.prog w = .ok (.bool false) w := by
  have h1 := eql30 p u h s n m f w
  rw [run_eql_struct] at h1
  rw [run_neq_struct]
  generalize (Op.equalIn 10000 30 (.agg (Q7 p u h s n m f)) (.agg (Q7 p u h s n m f))).run Tryf.prog w = r at h1 ⊢
  cases r with
  | ok b w' =>
    simp only [Result.andThen] at h1 ⊢
    injection h1 with h2 h3
    injection h2 with h2
    subst h2 h3
    rfl
  | halt x w' => simp [Result.andThen] at h1
end Go.Proofs.Qxb6608618aFmt
