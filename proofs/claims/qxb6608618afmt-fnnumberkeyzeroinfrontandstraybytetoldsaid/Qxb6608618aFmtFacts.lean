import Derived.Test.Qxb6608618aFmtRows
import Derived.Stop.CallBack
import Derived.Stop.IfaceNil
import Derived.Stop.FmtTextVerbs
import Derived.Stop.FmtQuoteTie
import Derived.Stop.FmtTextKit
import GoSem.ClaimData
namespace Go.Proofs.Qxb6608618aFmt
open Go.Extern.Stop Go.Stop Go.Extern

theorem Tryf.call20 (args : Array Value) (w : World) : (callFunc 20 args).run Tryf.prog w = ((FmtStop.sprintf #[9, 108] #[9] args).run Tryf.prog w).andThen fun v w' => .ok (.value v) w' :=
  run_callFunc_extern Tryf.func20 (by kernel_rfl) (by kernel_rfl) (by kernel_rfl) (by kernel_rfl) args w
theorem Tryf.guard (name : String) (w : World) : (FmtStop.guard name).run Tryf.prog w = .ok () w := by kernel_rfl
theorem Tryf.fmt2 : FmtStop.printed? ⟨#[37, 113, 32, 105, 115, 32, 110, 111, 32, 37, 115, 58, 32, 37, 115, 32, 105, 115, 32, 97, 32, 110, 117, 109, 98, 101, 114, 32, 102, 114, 111, 109, 32, 48, 32, 116, 111, 32, 37, 100]⟩ 4 = some [(0, 113, false), (1, 115, false), (2, 115, false), (3, 100, false)] := by kernel_rfl
theorem Tryf.fmt2r (w : World) : (FmtDoors.printed ⟨#[37, 113, 32, 105, 115, 32, 110, 111, 32, 37, 115, 58, 32, 37, 115, 32, 105, 115, 32, 97, 32, 110, 117, 109, 98, 101, 114, 32, 102, 114, 111, 109, 32, 48, 32, 116, 111, 32, 37, 100]⟩ 4).run Tryf.prog w = .ok [(0, 113, false), (1, 115, false), (2, 115, false), (3, 100, false)] w := by kernel_rfl
def Tryf.shape23 : List UInt8 := [9, 6, 0, 0, 0, 0, 0, 0, 0, 117, 105, 110, 116, 54, 52]
theorem Tryf.op23_100 (name : String) (x : Int) (w : World) : (FmtStop.operand name false 100 false (.iface 23 (.int .u64 x))).run Tryf.prog w = .ok (Tryf.shape23, Go.Extern.Stop.digits 8 (x % 2 ^ 64).toNat) w := by kernel_rfl
def Tryf.shape9 : List UInt8 := [12, 6, 0, 0, 0, 0, 0, 0, 0, 115, 116, 114, 105, 110, 103]
theorem Tryf.op9_115 (name : String) (x : ByteArray) (w : World) : (FmtStop.operand name false 115 false (.iface 9 (.string x))).run Tryf.prog w = .ok (Tryf.shape9, FmtStop.pack x.data.toList) w := by kernel_rfl
theorem Tryf.op9_113 (name : String) (x : ByteArray) (w : World) : (FmtStop.operand name false 113 false (.iface 9 (.string x))).run Tryf.prog w = .ok (Tryf.shape9, FmtStop.pack x.data.toList) w := by kernel_rfl

/-- what fmt is asked -/
def reading (a b c : List UInt8) (n : Int) : List (List UInt8) :=
  [[37, 113, 32, 105, 115, 32, 110, 111, 32, 37, 115, 58, 32, 37, 115, 32, 105, 115, 32, 97, 32, 110, 117, 109, 98, 101, 114, 32, 102, 114, 111, 109, 32, 48, 32, 116, 111, 32, 37, 100], Tryf.shape9, FmtStop.pack a, Tryf.shape9, FmtStop.pack b, Tryf.shape9, FmtStop.pack c, Tryf.shape23, digits 8 (n % 18446744073709551616).toNat]
/-- what fmt says -/
def told4 (a b c : List UInt8) (n : Int) : List UInt8 :=
  FmtText.quote false a ++ [32, 105, 115, 32, 110, 111, 32] ++ b ++ [58, 32] ++ c ++ [32, 105, 115, 32, 97, 32, 110, 117, 109, 98, 101, 114, 32, 102, 114, 111, 109, 32, 48, 32, 116, 111, 32] ++ Lib.itoa n

theorem t_parse : (FmtText.parse [37, 113, 32, 105, 115, 32, 110, 111, 32, 37, 115, 58, 32, 37, 115, 32, 105, 115, 32, 97, 32, 110, 117, 109, 98, 101, 114, 32, 102, 114, 111, 109, 32, 48, 32, 116, 111, 32, 37, 100]).map FmtText.glue = some [.verb {} 113, .lit [32, 105, 115, 32, 110, 111, 32], .verb {} 115, .lit [58, 32], .verb {} 115, .lit [32, 105, 115, 32, 97, 32, 110, 117, 109, 98, 101, 114, 32, 102, 114, 111, 109, 32, 48, 32, 116, 111, 32], .verb {} 100] := by rfl

theorem t_text (a b c : List UInt8) (n : Int) (ha : a.length < 2 ^ 64) (hb : b.length < 2 ^ 64) (hc : c.length < 2 ^ 64) (hw : (Lit.int .u64 n).wf = true) : FmtText.text "fmt.Sprintf" (reading a b c n) = some (told4 a b c n) := by
  have h1 := FmtText.operand_str_at (sh := Tryf.shape9) rfl rfl a ha
  have h2 := FmtText.operand_str_at (sh := Tryf.shape9) rfl rfl b hb
  have h3 := FmtText.operand_str_at (sh := Tryf.shape9) rfl rfl c hc
  have h4 := FmtText.operand_int_at (sh := Tryf.shape23) (k := .u64) rfl rfl n hw
  rw [reading, FmtText.text_sprintf_glued t_parse (FmtText.operands_cons h1 (FmtText.operands_cons h2 (FmtText.operands_cons h3 (FmtText.operands_cons h4 FmtText.operands_nil))))]
  simp [FmtText.render, FmtText.printArg_q_str, FmtText.printArg_s_str, FmtText.printArg_d _ _ hw, told4]
end Go.Proofs.Qxb6608618aFmt
