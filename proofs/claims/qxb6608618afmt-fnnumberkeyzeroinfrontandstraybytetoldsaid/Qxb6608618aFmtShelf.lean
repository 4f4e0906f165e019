/-
  DERIVED: THE SHELF's CONTRACTS AT THIS DUMP, IN PLAIN WORDS (tools/lay-plain.mjs out of 'TryfShelf.lean', which tools/lay-shelf.mjs wrote): THE SAME DECLARATIONS UNDER THE SAME NAMES: 'import', 'namespace', 'open', 'def', 'theorem' AND NOTHING ELSE: no command of the shelf's: FOR A HAND-IN. Each laying: the table of numbers ('.._ren') and one theorem, a field a fact of the dump's own or the kernel's comparison; each contract: ONE APPLICATION.
-/
import Derived.Shelf.Strconv.Itoa0
import Derived.Shelf.Strconv.Itoa1
import Derived.Shelf.LaysM
import Derived.Shelf.Strconv.Itoa2
import Derived.Shelf.Strconv.Itoa3
import Derived.Ground.MpProg
import Derived.Shelf.Pu.ParseUintPublic10
import Derived.Shelf.Pu.ErrVarParseUint
import Derived.Shelf.Strings.Search1
import Derived.Shelf.Strings.Search2
import Derived.Shelf.Strings.Cut
import Derived.Shelf.Strings.Shaped
import Derived.Shelf.GgClosure.StringsIndexFunc
import Derived.Ground.GgwProg
import Derived.Shelf.GgClosure.StringsIndexFuncTop
import Derived.Shelf.GgClosure.StringsRunes
import Derived.Shelf.Strings.FuncGrows
import Derived.Test.Qxb6608618aFmtProg
namespace Go.Proofs
open Go.Shelf
def Tryf.lays129_ren : Go.Shelf.Ren := ⟨fun | 129 => 51 | n => n, fun | 53 => 23 | 3 => 3 | 4 => 4 | 46 => 59 | 5 => 5 | 9 => 9 | n => n, fun | n => n⟩
theorem Tryf.lays129 : Go.Proofs.Lays.n129 Tryf.prog Tryf.lays129_ren := {
  mixed := by kernel_rfl
  f129 := Tryf.func51.trans (congrArg some (by kernel_rfl))
  t3 := Tryf.underlying3
  a3 := Tryf.isAgg3
  z3 := Tryf.sizeOf3
  v3 := Tryf.zeroValue3
  t4 := Tryf.underlying4
  a4 := Tryf.isAgg4
  z4 := Tryf.sizeOf4
  v4 := Tryf.zeroValue4
  t5 := Tryf.underlying5
  a5 := Tryf.isAgg5
  z5 := Tryf.sizeOf5
  v5 := Tryf.zeroValue5
  t9 := Tryf.underlying9
  a9 := Tryf.isAgg9
  z9 := Tryf.sizeOf9
  v9 := Tryf.zeroValue9
  t46 := Tryf.underlying59
  a46 := Tryf.isAgg59
  z46 := Tryf.sizeOf59
  v46 := Tryf.zeroValue59
  t53 := Tryf.underlying23
  a53 := Tryf.isAgg23
  z53 := Tryf.sizeOf23
  v53 := Tryf.zeroValue23 }
/-- bits.Len64: "Len64 returns the minimum number of bits required to represent x; the result is 0 for x == 0.": IT RETURNS 'Lib.bitLen x'; the world is as it was. ('h0', 'h1': x is a uint64.) (LAID: no walk: one application.) -/
theorem Tryf.bits_Len64 (x : Int) (w : World) (h0 : 0 ≤ x) (h1 : x ≤ 18446744073709551615) :
    Calls Tryf.prog 51 #[.int .u64 x] w fun e w' => e = .returned (.int .i64 (Lib.bitLen x.toNat)) ∧ w' = w := Any.bits_Len64 Tryf.lays129 x w h0 h1
def Tryf.lays317_ren : Go.Shelf.Ren := ⟨fun | 317 => 50 | n => n, fun | 3 => 3 | 46 => 59 | n => n, fun | n => n⟩
theorem Tryf.lays317 : Go.Proofs.Lays.n317 Tryf.prog Tryf.lays317_ren := {
  mixed := by kernel_rfl
  f317 := Tryf.func50.trans (congrArg some (by kernel_rfl))
  t3 := Tryf.underlying3
  a3 := Tryf.isAgg3
  z3 := Tryf.sizeOf3
  v3 := Tryf.zeroValue3
  t46 := Tryf.underlying59
  a46 := Tryf.isAgg59
  z46 := Tryf.sizeOf59
  v46 := Tryf.zeroValue59 }
open Go.Lib in
/-- internal/strconv.log10Pow2: "log10Pow2(x) returns ⌊log₁₀ 2**x⌋ = ⌊x * log₁₀ 2⌋.": '(x * 78913) >> 18', at an x up to 64 (a length in bits). The world is as it was. (LAID: no walk: one application.) -/
theorem Tryf.internal_strconv_log10Pow2 (x : Nat) (h : x ≤ 64) (w : World) :
    Calls Tryf.prog 50 #[.int .i64 x] w fun e w' => e = .returned (.int .i64 (Lib.l10 x)) ∧ w' = w := Any.internal_strconv_log10Pow2 Tryf.lays317 x h w
def Tryf.lays318_ren : Go.Shelf.Ren := ⟨fun | 318 => 52 | n => n, fun | 3 => 3 | 4 => 4 | n => n, fun | n => n⟩
theorem Tryf.lays318 : Go.Proofs.Lays.n318 Tryf.prog Tryf.lays318_ren := {
  mixed := by kernel_rfl
  f318 := Tryf.func52.trans (congrArg some (by kernel_rfl))
  t3 := Tryf.underlying3
  a3 := Tryf.isAgg3
  z3 := Tryf.sizeOf3
  v3 := Tryf.zeroValue3
  t4 := Tryf.underlying4
  a4 := Tryf.isAgg4
  z4 := Tryf.sizeOf4
  v4 := Tryf.zeroValue4 }
open Go.Lib in
/-- internal/strconv.bool2: "bool2 converts b to an integer: 1 for true, 0 for false." The world is as it was. (LAID: no walk: one application.) -/
theorem Tryf.internal_strconv_bool2_int (b : Bool) (w : World) :
    Calls Tryf.prog 52 #[.bool b] w fun e w' => e = .returned (.int .i64 (if b then 1 else 0)) ∧ w' = w := Any.internal_strconv_bool2_int Tryf.lays318 b w
def Tryf.lays283_ren : Go.Shelf.Ren := ⟨fun | 283 => 46 | n => n, fun | 3 => 3 | 9 => 9 | 4 => 4 | n => n, fun | n => n⟩
theorem Tryf.lays283 : Go.Proofs.Lays.n283 Tryf.prog Tryf.lays283_ren := {
  mixed := by kernel_rfl
  f283 := Tryf.func46.trans (congrArg some (by kernel_rfl))
  t3 := Tryf.underlying3
  a3 := Tryf.isAgg3
  z3 := Tryf.sizeOf3
  v3 := Tryf.zeroValue3
  t4 := Tryf.underlying4
  a4 := Tryf.isAgg4
  z4 := Tryf.sizeOf4
  v4 := Tryf.zeroValue4
  t9 := Tryf.underlying9
  a9 := Tryf.isAgg9
  z9 := Tryf.sizeOf9
  v9 := Tryf.zeroValue9 }
open Go.Lib in
/-- internal/strconv.small: "small returns the string for an i with 0 <= i < nSmalls.": i's decimal numeral. The world is as it was. (LAID: no walk: one application.) -/
theorem Tryf.internal_strconv_small (i : Nat) (h : i < 100) (w : World) :
    Calls Tryf.prog 46 #[.int .i64 i] w fun e w' => e = .returned (.string ⟨(Lib.decDigits i).toArray⟩) ∧ w' = w := Any.internal_strconv_small Tryf.lays283 i h w
def Tryf.laysM284_ren : Go.Shelf.Ren := ⟨fun | 284 => 47 | 129 => 51 | 317 => 50 | 318 => 52 | n => n, fun | 53 => 23 | 3 => 3 | 212 => 85 | 0 => 0 | 4 => 4 | 46 => 59 | 5 => 5 | 9 => 9 | n => n, fun | 17 => 3 | n => n⟩
theorem Tryf.laysM284 : Go.Proofs.LaysM.n284 Tryf.prog Tryf.laysM284_ren := {
  mixed := by kernel_rfl
  f129 := Tryf.func51.trans (congrArg some (by kernel_rfl))
  f284 := Tryf.func47.trans (congrArg some (by kernel_rfl))
  f317 := Tryf.func50.trans (congrArg some (by kernel_rfl))
  f318 := Tryf.func52.trans (congrArg some (by kernel_rfl))
  t0 := Tryf.underlying0
  a0 := Tryf.isAgg0
  z0 := Tryf.sizeOf0
  v0 := Tryf.zeroValue0
  t3 := Tryf.underlying3
  a3 := Tryf.isAgg3
  z3 := Tryf.sizeOf3
  v3 := Tryf.zeroValue3
  t4 := Tryf.underlying4
  a4 := Tryf.isAgg4
  z4 := Tryf.sizeOf4
  v4 := Tryf.zeroValue4
  t5 := Tryf.underlying5
  a5 := Tryf.isAgg5
  z5 := Tryf.sizeOf5
  v5 := Tryf.zeroValue5
  t9 := Tryf.underlying9
  a9 := Tryf.isAgg9
  z9 := Tryf.sizeOf9
  v9 := Tryf.zeroValue9
  t46 := Tryf.underlying59
  a46 := Tryf.isAgg59
  z46 := Tryf.sizeOf59
  v46 := Tryf.zeroValue59
  t53 := Tryf.underlying23
  a53 := Tryf.isAgg23
  z53 := Tryf.sizeOf23
  v53 := Tryf.zeroValue23
  t212 := Tryf.underlying85
  a212 := Tryf.isAgg85
  z212 := Tryf.sizeOf85
  v212 := Tryf.zeroValue85
  g17 := by kernel_rfl
  i0 := by kernel_rfl
  i3 := by kernel_rfl
  i4 := by kernel_rfl
  i5 := by kernel_rfl
  i9 := by kernel_rfl
  i46 := by kernel_rfl
  i53 := by kernel_rfl
  i212 := by kernel_rfl
  m17 := by kernel_rfl }
open Go.Lib in
/-- internal/strconv.numDigits, at a d that is not 0: THE NUMBER OF d's DECIMAL DIGITS. The world is as it was. (LAID: no walk: one application.) -/
theorem Tryf.internal_strconv_numDigits (u : Nat) (h1 : 1 ≤ u) (h2 : u < 18446744073709551616) (w : World) (htab : Lib.TabIs Tryf.prog w "internal/strconv.uint64pow10" .u64 Lib.pow10Tab) :
    Calls Tryf.prog 47 #[.int .u64 u] w fun e w' => e = .returned (.int .i64 (Lib.nDigits u)) ∧ w' = w := Any.internal_strconv_numDigits Tryf.laysM284 u h1 h2 w htab
def Tryf.lays285_ren : Go.Shelf.Ren := ⟨fun | 285 => 48 | n => n, fun | 37 => 37 | 53 => 23 | 3 => 3 | 4 => 4 | 51 => 22 | 9 => 9 | 5 => 5 | 0 => 0 | n => n, fun | n => n⟩
theorem Tryf.lays285 : Go.Proofs.Lays.n285 Tryf.prog Tryf.lays285_ren := {
  mixed := by kernel_rfl
  f285 := Tryf.func48.trans (congrArg some (by kernel_rfl))
  t0 := Tryf.underlying0
  a0 := Tryf.isAgg0
  z0 := Tryf.sizeOf0
  v0 := Tryf.zeroValue0
  t3 := Tryf.underlying3
  a3 := Tryf.isAgg3
  z3 := Tryf.sizeOf3
  v3 := Tryf.zeroValue3
  t4 := Tryf.underlying4
  a4 := Tryf.isAgg4
  z4 := Tryf.sizeOf4
  v4 := Tryf.zeroValue4
  t5 := Tryf.underlying5
  a5 := Tryf.isAgg5
  z5 := Tryf.sizeOf5
  v5 := Tryf.zeroValue5
  t9 := Tryf.underlying9
  a9 := Tryf.isAgg9
  z9 := Tryf.sizeOf9
  v9 := Tryf.zeroValue9
  t37 := Tryf.underlying37
  a37 := Tryf.isAgg37
  z37 := Tryf.sizeOf37
  v37 := Tryf.zeroValue37
  t51 := Tryf.underlying22
  a51 := Tryf.isAgg22
  z51 := Tryf.sizeOf22
  v51 := Tryf.zeroValue22
  t53 := Tryf.underlying23
  a53 := Tryf.isAgg23
  z53 := Tryf.sizeOf23
  v53 := Tryf.zeroValue23 }
open Go.RowKit Go.Sort Go.Lib in
/-- internal/strconv.formatBase10: "formatBase10 formats the decimal representation of u into a. The caller is responsible for ensuring that a is big enough to hold u. If a is too big, leading zeros will be filled in as needed.": THE ROW HOLDS u's DIGITS ('FmtInv .. 0 ..': every place t holds 'dg u (len - 1 - t)'); all else is as it was but for the count of draws. (LAID: no walk: one application.) -/
theorem Tryf.internal_strconv_formatBase10 (blk off cap : Nat) (u : Nat) (d : Array UInt8) (w : World) (hH : Holds (fun (b : UInt8) => Value.int .u8 (b.toNat : Int)) w blk off d) (hu : u < 10 ^ d.size) (hu64 : u < 18446744073709551616) (hsz : d.size < 4611686018427387904) :
    Calls Tryf.prog 48 #[.slice (some ⟨blk, off, none⟩) d.size cap, .int .u64 u] w fun e w' =>
      e = .returned (.tuple #[]) ∧ ∃ (n v' : Nat) (dk : Array UInt8), w' = (putRow (fun (b : UInt8) => Value.int .u8 (b.toNat : Int)) w blk off dk).drewN n ∧ FmtInv d.size u 0 v' dk := Any.internal_strconv_formatBase10 Tryf.lays285 blk off cap u d w hH hu hu64 hsz
def Tryf.laysM246_ren : Go.Shelf.Ren := ⟨fun | 246 => 45 | 283 => 46 | 284 => 47 | 285 => 48 | 286 => 49 | 129 => 51 | 317 => 50 | 318 => 52 | 319 => 53 | 320 => 54 | 337 => 55 | 338 => 56 | n => n, fun | 2 => 2 | 3 => 3 | 9 => 9 | 4 => 4 | 171 => 79 | 0 => 0 | 53 => 23 | 37 => 37 | 5 => 5 | 173 => 82 | 212 => 85 | 51 => 22 | 20 => 20 | 213 => 86 | 46 => 59 | 232 => 90 | 233 => 91 | n => n, fun | 17 => 3 | 18 => 4 | 19 => 5 | n => n⟩
theorem Tryf.laysM246 : Go.Proofs.LaysM.n246 Tryf.prog Tryf.laysM246_ren := {
  mixed := by kernel_rfl
  f129 := Tryf.func51.trans (congrArg some (by kernel_rfl))
  f246 := Tryf.func45.trans (congrArg some (by kernel_rfl))
  f283 := Tryf.func46.trans (congrArg some (by kernel_rfl))
  f284 := Tryf.func47.trans (congrArg some (by kernel_rfl))
  f285 := Tryf.func48.trans (congrArg some (by kernel_rfl))
  f286 := Tryf.func49.trans (congrArg some (by kernel_rfl))
  f317 := Tryf.func50.trans (congrArg some (by kernel_rfl))
  f318 := Tryf.func52.trans (congrArg some (by kernel_rfl))
  f319 := Tryf.func53.trans (congrArg some (by kernel_rfl))
  f320 := Tryf.func54.trans (congrArg some (by kernel_rfl))
  f337 := Tryf.func55.trans (congrArg some (by kernel_rfl))
  f338 := Tryf.func56.trans (congrArg some (by kernel_rfl))
  t0 := Tryf.underlying0
  a0 := Tryf.isAgg0
  z0 := Tryf.sizeOf0
  v0 := Tryf.zeroValue0
  t2 := Tryf.underlying2
  a2 := Tryf.isAgg2
  z2 := Tryf.sizeOf2
  v2 := Tryf.zeroValue2
  t3 := Tryf.underlying3
  a3 := Tryf.isAgg3
  z3 := Tryf.sizeOf3
  v3 := Tryf.zeroValue3
  t4 := Tryf.underlying4
  a4 := Tryf.isAgg4
  z4 := Tryf.sizeOf4
  v4 := Tryf.zeroValue4
  t5 := Tryf.underlying5
  a5 := Tryf.isAgg5
  z5 := Tryf.sizeOf5
  v5 := Tryf.zeroValue5
  t9 := Tryf.underlying9
  a9 := Tryf.isAgg9
  z9 := Tryf.sizeOf9
  v9 := Tryf.zeroValue9
  t20 := Tryf.underlying20
  a20 := Tryf.isAgg20
  z20 := Tryf.sizeOf20
  v20 := Tryf.zeroValue20
  t37 := Tryf.underlying37
  a37 := Tryf.isAgg37
  z37 := Tryf.sizeOf37
  v37 := Tryf.zeroValue37
  t46 := Tryf.underlying59
  a46 := Tryf.isAgg59
  z46 := Tryf.sizeOf59
  v46 := Tryf.zeroValue59
  t51 := Tryf.underlying22
  a51 := Tryf.isAgg22
  z51 := Tryf.sizeOf22
  v51 := Tryf.zeroValue22
  t53 := Tryf.underlying23
  a53 := Tryf.isAgg23
  z53 := Tryf.sizeOf23
  v53 := Tryf.zeroValue23
  t171 := Tryf.underlying79
  a171 := Tryf.isAgg79
  z171 := Tryf.sizeOf79
  v171 := Tryf.zeroValue79
  t173 := Tryf.underlying82
  a173 := Tryf.isAgg82
  z173 := Tryf.sizeOf82
  v173 := Tryf.zeroValue82
  t212 := Tryf.underlying85
  a212 := Tryf.isAgg85
  z212 := Tryf.sizeOf85
  v212 := Tryf.zeroValue85
  t213 := Tryf.underlying86
  a213 := Tryf.isAgg86
  z213 := Tryf.sizeOf86
  t232 := Tryf.underlying90
  a232 := Tryf.isAgg90
  z232 := Tryf.sizeOf90
  v232 := Tryf.zeroValue90
  t233 := Tryf.underlying91
  a233 := Tryf.isAgg91
  z233 := Tryf.sizeOf91
  v233 := Tryf.zeroValue91
  g17 := by kernel_rfl
  g18 := by kernel_rfl
  g19 := by kernel_rfl
  i0 := by kernel_rfl
  i2 := by kernel_rfl
  i3 := by kernel_rfl
  i4 := by kernel_rfl
  i5 := by kernel_rfl
  i9 := by kernel_rfl
  i20 := by kernel_rfl
  i37 := by kernel_rfl
  i46 := by kernel_rfl
  i51 := by kernel_rfl
  i53 := by kernel_rfl
  i171 := by kernel_rfl
  i173 := by kernel_rfl
  i212 := by kernel_rfl
  i232 := by kernel_rfl
  i233 := by kernel_rfl
  m17 := by kernel_rfl
  m18 := by kernel_rfl
  m19 := by kernel_rfl }
open Go.RowKit Go.Sort Go.Lib in
/-- internal/strconv.FormatInt: "FormatInt returns the string representation of i in the given base": AT BASE 10: i's decimal numeral, for every int64. The world behind the call: the world before it, new blocks behind the heap, draws. (LAID: no walk: one application.) -/
theorem Tryf.internal_strconv_FormatInt_10 (n : Int) (h0 : -9223372036854775808 ≤ n) (h1 : n ≤ 9223372036854775807) (w : World) (htab : Lib.TabIs Tryf.prog w "internal/strconv.uint64pow10" .u64 Lib.pow10Tab) :
    Calls Tryf.prog 45 #[.int .i64 n, .int .i64 10] w fun e w' => e = .returned (.string ⟨(Lib.itoa n).toArray⟩) ∧ ∃ k os, w' = grow (w.drewN k) os := Any.internal_strconv_FormatInt_10 Tryf.laysM246 n h0 h1 w htab
def Tryf.lays246_ren : Go.Shelf.Ren := ⟨fun | 246 => 45 | 283 => 46 | 284 => 47 | 285 => 48 | 286 => 49 | 129 => 51 | 317 => 50 | 318 => 52 | 319 => 53 | 320 => 54 | 337 => 55 | 338 => 56 | n => n, fun | 2 => 2 | 3 => 3 | 9 => 9 | 4 => 4 | 171 => 79 | 0 => 0 | 53 => 23 | 37 => 37 | 5 => 5 | 173 => 82 | 212 => 85 | 51 => 22 | 20 => 20 | 213 => 86 | 46 => 59 | 232 => 90 | 233 => 91 | n => n, fun | 17 => 3 | 18 => 4 | 19 => 5 | n => n⟩
theorem Tryf.lays246 : Go.Proofs.Lays.n246 Tryf.prog Tryf.lays246_ren := {
  mixed := by kernel_rfl
  f129 := Tryf.func51.trans (congrArg some (by kernel_rfl))
  f246 := Tryf.func45.trans (congrArg some (by kernel_rfl))
  f283 := Tryf.func46.trans (congrArg some (by kernel_rfl))
  f284 := Tryf.func47.trans (congrArg some (by kernel_rfl))
  f285 := Tryf.func48.trans (congrArg some (by kernel_rfl))
  f286 := Tryf.func49.trans (congrArg some (by kernel_rfl))
  f317 := Tryf.func50.trans (congrArg some (by kernel_rfl))
  f318 := Tryf.func52.trans (congrArg some (by kernel_rfl))
  f319 := Tryf.func53.trans (congrArg some (by kernel_rfl))
  f320 := Tryf.func54.trans (congrArg some (by kernel_rfl))
  f337 := Tryf.func55.trans (congrArg some (by kernel_rfl))
  f338 := Tryf.func56.trans (congrArg some (by kernel_rfl))
  t0 := Tryf.underlying0
  a0 := Tryf.isAgg0
  z0 := Tryf.sizeOf0
  v0 := Tryf.zeroValue0
  t2 := Tryf.underlying2
  a2 := Tryf.isAgg2
  z2 := Tryf.sizeOf2
  v2 := Tryf.zeroValue2
  t3 := Tryf.underlying3
  a3 := Tryf.isAgg3
  z3 := Tryf.sizeOf3
  v3 := Tryf.zeroValue3
  t4 := Tryf.underlying4
  a4 := Tryf.isAgg4
  z4 := Tryf.sizeOf4
  v4 := Tryf.zeroValue4
  t5 := Tryf.underlying5
  a5 := Tryf.isAgg5
  z5 := Tryf.sizeOf5
  v5 := Tryf.zeroValue5
  t9 := Tryf.underlying9
  a9 := Tryf.isAgg9
  z9 := Tryf.sizeOf9
  v9 := Tryf.zeroValue9
  t20 := Tryf.underlying20
  a20 := Tryf.isAgg20
  z20 := Tryf.sizeOf20
  v20 := Tryf.zeroValue20
  t37 := Tryf.underlying37
  a37 := Tryf.isAgg37
  z37 := Tryf.sizeOf37
  v37 := Tryf.zeroValue37
  t46 := Tryf.underlying59
  a46 := Tryf.isAgg59
  z46 := Tryf.sizeOf59
  v46 := Tryf.zeroValue59
  t51 := Tryf.underlying22
  a51 := Tryf.isAgg22
  z51 := Tryf.sizeOf22
  v51 := Tryf.zeroValue22
  t53 := Tryf.underlying23
  a53 := Tryf.isAgg23
  z53 := Tryf.sizeOf23
  v53 := Tryf.zeroValue23
  t171 := Tryf.underlying79
  a171 := Tryf.isAgg79
  z171 := Tryf.sizeOf79
  v171 := Tryf.zeroValue79
  t173 := Tryf.underlying82
  a173 := Tryf.isAgg82
  z173 := Tryf.sizeOf82
  v173 := Tryf.zeroValue82
  t212 := Tryf.underlying85
  a212 := Tryf.isAgg85
  z212 := Tryf.sizeOf85
  v212 := Tryf.zeroValue85
  t213 := Tryf.underlying86
  a213 := Tryf.isAgg86
  z213 := Tryf.sizeOf86
  t232 := Tryf.underlying90
  a232 := Tryf.isAgg90
  z232 := Tryf.sizeOf90
  v232 := Tryf.zeroValue90
  t233 := Tryf.underlying91
  a233 := Tryf.isAgg91
  z233 := Tryf.sizeOf91
  v233 := Tryf.zeroValue91
  g17 := by kernel_rfl
  g18 := by kernel_rfl
  g19 := by kernel_rfl }
open Go.RowKit Go.Sort Go.Lib in
/-- THE ROAD WITHOUT THE TABLE: 0 <= i < 100: two constants are read, nothing is laid: no premise on the world, and the world is as it was. (LAID: no walk: one application.) -/
theorem Tryf.internal_strconv_FormatInt_10_small (i : Nat) (hi : i < 100) (w : World) :
    Calls Tryf.prog 45 #[.int .i64 i, .int .i64 10] w fun e w' => e = .returned (.string ⟨(Lib.decDigits i).toArray⟩) ∧ w' = w := Any.internal_strconv_FormatInt_10_small Tryf.lays246 i hi w
def Tryf.laysM243_ren : Go.Shelf.Ren := ⟨fun | 243 => 42 | 246 => 45 | 283 => 46 | 284 => 47 | 285 => 48 | 286 => 49 | 129 => 51 | 317 => 50 | 318 => 52 | 319 => 53 | 320 => 54 | 337 => 55 | 338 => 56 | n => n, fun | 3 => 3 | 9 => 9 | 2 => 2 | 4 => 4 | 171 => 79 | 0 => 0 | 53 => 23 | 37 => 37 | 5 => 5 | 173 => 82 | 212 => 85 | 51 => 22 | 20 => 20 | 213 => 86 | 46 => 59 | 232 => 90 | 233 => 91 | n => n, fun | 17 => 3 | 18 => 4 | 19 => 5 | n => n⟩
theorem Tryf.laysM243 : Go.Proofs.LaysM.n243 Tryf.prog Tryf.laysM243_ren := {
  mixed := by kernel_rfl
  f129 := Tryf.func51.trans (congrArg some (by kernel_rfl))
  f243 := Tryf.func42.trans (congrArg some (by kernel_rfl))
  f246 := Tryf.func45.trans (congrArg some (by kernel_rfl))
  f283 := Tryf.func46.trans (congrArg some (by kernel_rfl))
  f284 := Tryf.func47.trans (congrArg some (by kernel_rfl))
  f285 := Tryf.func48.trans (congrArg some (by kernel_rfl))
  f286 := Tryf.func49.trans (congrArg some (by kernel_rfl))
  f317 := Tryf.func50.trans (congrArg some (by kernel_rfl))
  f318 := Tryf.func52.trans (congrArg some (by kernel_rfl))
  f319 := Tryf.func53.trans (congrArg some (by kernel_rfl))
  f320 := Tryf.func54.trans (congrArg some (by kernel_rfl))
  f337 := Tryf.func55.trans (congrArg some (by kernel_rfl))
  f338 := Tryf.func56.trans (congrArg some (by kernel_rfl))
  t0 := Tryf.underlying0
  a0 := Tryf.isAgg0
  z0 := Tryf.sizeOf0
  v0 := Tryf.zeroValue0
  t2 := Tryf.underlying2
  a2 := Tryf.isAgg2
  z2 := Tryf.sizeOf2
  v2 := Tryf.zeroValue2
  t3 := Tryf.underlying3
  a3 := Tryf.isAgg3
  z3 := Tryf.sizeOf3
  v3 := Tryf.zeroValue3
  t4 := Tryf.underlying4
  a4 := Tryf.isAgg4
  z4 := Tryf.sizeOf4
  v4 := Tryf.zeroValue4
  t5 := Tryf.underlying5
  a5 := Tryf.isAgg5
  z5 := Tryf.sizeOf5
  v5 := Tryf.zeroValue5
  t9 := Tryf.underlying9
  a9 := Tryf.isAgg9
  z9 := Tryf.sizeOf9
  v9 := Tryf.zeroValue9
  t20 := Tryf.underlying20
  a20 := Tryf.isAgg20
  z20 := Tryf.sizeOf20
  v20 := Tryf.zeroValue20
  t37 := Tryf.underlying37
  a37 := Tryf.isAgg37
  z37 := Tryf.sizeOf37
  v37 := Tryf.zeroValue37
  t46 := Tryf.underlying59
  a46 := Tryf.isAgg59
  z46 := Tryf.sizeOf59
  v46 := Tryf.zeroValue59
  t51 := Tryf.underlying22
  a51 := Tryf.isAgg22
  z51 := Tryf.sizeOf22
  v51 := Tryf.zeroValue22
  t53 := Tryf.underlying23
  a53 := Tryf.isAgg23
  z53 := Tryf.sizeOf23
  v53 := Tryf.zeroValue23
  t171 := Tryf.underlying79
  a171 := Tryf.isAgg79
  z171 := Tryf.sizeOf79
  v171 := Tryf.zeroValue79
  t173 := Tryf.underlying82
  a173 := Tryf.isAgg82
  z173 := Tryf.sizeOf82
  v173 := Tryf.zeroValue82
  t212 := Tryf.underlying85
  a212 := Tryf.isAgg85
  z212 := Tryf.sizeOf85
  v212 := Tryf.zeroValue85
  t213 := Tryf.underlying86
  a213 := Tryf.isAgg86
  z213 := Tryf.sizeOf86
  t232 := Tryf.underlying90
  a232 := Tryf.isAgg90
  z232 := Tryf.sizeOf90
  v232 := Tryf.zeroValue90
  t233 := Tryf.underlying91
  a233 := Tryf.isAgg91
  z233 := Tryf.sizeOf91
  v233 := Tryf.zeroValue91
  g17 := by kernel_rfl
  g18 := by kernel_rfl
  g19 := by kernel_rfl
  i0 := by kernel_rfl
  i2 := by kernel_rfl
  i3 := by kernel_rfl
  i4 := by kernel_rfl
  i5 := by kernel_rfl
  i9 := by kernel_rfl
  i20 := by kernel_rfl
  i37 := by kernel_rfl
  i46 := by kernel_rfl
  i51 := by kernel_rfl
  i53 := by kernel_rfl
  i171 := by kernel_rfl
  i173 := by kernel_rfl
  i212 := by kernel_rfl
  i232 := by kernel_rfl
  i233 := by kernel_rfl
  m17 := by kernel_rfl
  m18 := by kernel_rfl
  m19 := by kernel_rfl }
open Go.RowKit Go.Sort Go.Lib in
/-- internal/strconv.Itoa: "Itoa is equivalent to FormatInt(int64(i), 10).": i's decimal numeral, for every int. (LAID: no walk: one application.) -/
theorem Tryf.internal_strconv_Itoa (n : Int) (h0 : -9223372036854775808 ≤ n) (h1 : n ≤ 9223372036854775807) (w : World) (htab : Lib.TabIs Tryf.prog w "internal/strconv.uint64pow10" .u64 Lib.pow10Tab) :
    Calls Tryf.prog 42 #[.int .i64 n] w fun e w' => e = .returned (.string ⟨(Lib.itoa n).toArray⟩) ∧ ∃ k os, w' = grow (w.drewN k) os := Any.internal_strconv_Itoa Tryf.laysM243 n h0 h1 w htab
def Tryf.lays243_ren : Go.Shelf.Ren := ⟨fun | 243 => 42 | 246 => 45 | 283 => 46 | 284 => 47 | 285 => 48 | 286 => 49 | 129 => 51 | 317 => 50 | 318 => 52 | 319 => 53 | 320 => 54 | 337 => 55 | 338 => 56 | n => n, fun | 3 => 3 | 9 => 9 | 2 => 2 | 4 => 4 | 171 => 79 | 0 => 0 | 53 => 23 | 37 => 37 | 5 => 5 | 173 => 82 | 212 => 85 | 51 => 22 | 20 => 20 | 213 => 86 | 46 => 59 | 232 => 90 | 233 => 91 | n => n, fun | 17 => 3 | 18 => 4 | 19 => 5 | n => n⟩
theorem Tryf.lays243 : Go.Proofs.Lays.n243 Tryf.prog Tryf.lays243_ren := {
  mixed := by kernel_rfl
  f129 := Tryf.func51.trans (congrArg some (by kernel_rfl))
  f243 := Tryf.func42.trans (congrArg some (by kernel_rfl))
  f246 := Tryf.func45.trans (congrArg some (by kernel_rfl))
  f283 := Tryf.func46.trans (congrArg some (by kernel_rfl))
  f284 := Tryf.func47.trans (congrArg some (by kernel_rfl))
  f285 := Tryf.func48.trans (congrArg some (by kernel_rfl))
  f286 := Tryf.func49.trans (congrArg some (by kernel_rfl))
  f317 := Tryf.func50.trans (congrArg some (by kernel_rfl))
  f318 := Tryf.func52.trans (congrArg some (by kernel_rfl))
  f319 := Tryf.func53.trans (congrArg some (by kernel_rfl))
  f320 := Tryf.func54.trans (congrArg some (by kernel_rfl))
  f337 := Tryf.func55.trans (congrArg some (by kernel_rfl))
  f338 := Tryf.func56.trans (congrArg some (by kernel_rfl))
  t0 := Tryf.underlying0
  a0 := Tryf.isAgg0
  z0 := Tryf.sizeOf0
  v0 := Tryf.zeroValue0
  t2 := Tryf.underlying2
  a2 := Tryf.isAgg2
  z2 := Tryf.sizeOf2
  v2 := Tryf.zeroValue2
  t3 := Tryf.underlying3
  a3 := Tryf.isAgg3
  z3 := Tryf.sizeOf3
  v3 := Tryf.zeroValue3
  t4 := Tryf.underlying4
  a4 := Tryf.isAgg4
  z4 := Tryf.sizeOf4
  v4 := Tryf.zeroValue4
  t5 := Tryf.underlying5
  a5 := Tryf.isAgg5
  z5 := Tryf.sizeOf5
  v5 := Tryf.zeroValue5
  t9 := Tryf.underlying9
  a9 := Tryf.isAgg9
  z9 := Tryf.sizeOf9
  v9 := Tryf.zeroValue9
  t20 := Tryf.underlying20
  a20 := Tryf.isAgg20
  z20 := Tryf.sizeOf20
  v20 := Tryf.zeroValue20
  t37 := Tryf.underlying37
  a37 := Tryf.isAgg37
  z37 := Tryf.sizeOf37
  v37 := Tryf.zeroValue37
  t46 := Tryf.underlying59
  a46 := Tryf.isAgg59
  z46 := Tryf.sizeOf59
  v46 := Tryf.zeroValue59
  t51 := Tryf.underlying22
  a51 := Tryf.isAgg22
  z51 := Tryf.sizeOf22
  v51 := Tryf.zeroValue22
  t53 := Tryf.underlying23
  a53 := Tryf.isAgg23
  z53 := Tryf.sizeOf23
  v53 := Tryf.zeroValue23
  t171 := Tryf.underlying79
  a171 := Tryf.isAgg79
  z171 := Tryf.sizeOf79
  v171 := Tryf.zeroValue79
  t173 := Tryf.underlying82
  a173 := Tryf.isAgg82
  z173 := Tryf.sizeOf82
  v173 := Tryf.zeroValue82
  t212 := Tryf.underlying85
  a212 := Tryf.isAgg85
  z212 := Tryf.sizeOf85
  v212 := Tryf.zeroValue85
  t213 := Tryf.underlying86
  a213 := Tryf.isAgg86
  z213 := Tryf.sizeOf86
  t232 := Tryf.underlying90
  a232 := Tryf.isAgg90
  z232 := Tryf.sizeOf90
  v232 := Tryf.zeroValue90
  t233 := Tryf.underlying91
  a233 := Tryf.isAgg91
  z233 := Tryf.sizeOf91
  v233 := Tryf.zeroValue91
  g17 := by kernel_rfl
  g18 := by kernel_rfl
  g19 := by kernel_rfl }
open Go.RowKit Go.Sort Go.Lib in
/-- THE ROAD WITHOUT THE TABLE: 0 <= i < 100. (LAID: no walk: one application.) -/
theorem Tryf.internal_strconv_Itoa_small (i : Nat) (hi : i < 100) (w : World) :
    Calls Tryf.prog 42 #[.int .i64 i] w fun e w' => e = .returned (.string ⟨(Lib.decDigits i).toArray⟩) ∧ w' = w := Any.internal_strconv_Itoa_small Tryf.lays243 i hi w
def Tryf.laysM171_ren : Go.Shelf.Ren := ⟨fun | 171 => 37 | 243 => 42 | 246 => 45 | 283 => 46 | 284 => 47 | 285 => 48 | 286 => 49 | 129 => 51 | 317 => 50 | 318 => 52 | 319 => 53 | 320 => 54 | 337 => 55 | 338 => 56 | n => n, fun | 3 => 3 | 9 => 9 | 2 => 2 | 4 => 4 | 171 => 79 | 0 => 0 | 53 => 23 | 37 => 37 | 5 => 5 | 173 => 82 | 212 => 85 | 51 => 22 | 20 => 20 | 213 => 86 | 46 => 59 | 232 => 90 | 233 => 91 | n => n, fun | 17 => 3 | 18 => 4 | 19 => 5 | n => n⟩
theorem Tryf.laysM171 : Go.Proofs.LaysM.n171 Tryf.prog Tryf.laysM171_ren := {
  mixed := by kernel_rfl
  f129 := Tryf.func51.trans (congrArg some (by kernel_rfl))
  f171 := Tryf.func37.trans (congrArg some (by kernel_rfl))
  f243 := Tryf.func42.trans (congrArg some (by kernel_rfl))
  f246 := Tryf.func45.trans (congrArg some (by kernel_rfl))
  f283 := Tryf.func46.trans (congrArg some (by kernel_rfl))
  f284 := Tryf.func47.trans (congrArg some (by kernel_rfl))
  f285 := Tryf.func48.trans (congrArg some (by kernel_rfl))
  f286 := Tryf.func49.trans (congrArg some (by kernel_rfl))
  f317 := Tryf.func50.trans (congrArg some (by kernel_rfl))
  f318 := Tryf.func52.trans (congrArg some (by kernel_rfl))
  f319 := Tryf.func53.trans (congrArg some (by kernel_rfl))
  f320 := Tryf.func54.trans (congrArg some (by kernel_rfl))
  f337 := Tryf.func55.trans (congrArg some (by kernel_rfl))
  f338 := Tryf.func56.trans (congrArg some (by kernel_rfl))
  t0 := Tryf.underlying0
  a0 := Tryf.isAgg0
  z0 := Tryf.sizeOf0
  v0 := Tryf.zeroValue0
  t2 := Tryf.underlying2
  a2 := Tryf.isAgg2
  z2 := Tryf.sizeOf2
  v2 := Tryf.zeroValue2
  t3 := Tryf.underlying3
  a3 := Tryf.isAgg3
  z3 := Tryf.sizeOf3
  v3 := Tryf.zeroValue3
  t4 := Tryf.underlying4
  a4 := Tryf.isAgg4
  z4 := Tryf.sizeOf4
  v4 := Tryf.zeroValue4
  t5 := Tryf.underlying5
  a5 := Tryf.isAgg5
  z5 := Tryf.sizeOf5
  v5 := Tryf.zeroValue5
  t9 := Tryf.underlying9
  a9 := Tryf.isAgg9
  z9 := Tryf.sizeOf9
  v9 := Tryf.zeroValue9
  t20 := Tryf.underlying20
  a20 := Tryf.isAgg20
  z20 := Tryf.sizeOf20
  v20 := Tryf.zeroValue20
  t37 := Tryf.underlying37
  a37 := Tryf.isAgg37
  z37 := Tryf.sizeOf37
  v37 := Tryf.zeroValue37
  t46 := Tryf.underlying59
  a46 := Tryf.isAgg59
  z46 := Tryf.sizeOf59
  v46 := Tryf.zeroValue59
  t51 := Tryf.underlying22
  a51 := Tryf.isAgg22
  z51 := Tryf.sizeOf22
  v51 := Tryf.zeroValue22
  t53 := Tryf.underlying23
  a53 := Tryf.isAgg23
  z53 := Tryf.sizeOf23
  v53 := Tryf.zeroValue23
  t171 := Tryf.underlying79
  a171 := Tryf.isAgg79
  z171 := Tryf.sizeOf79
  v171 := Tryf.zeroValue79
  t173 := Tryf.underlying82
  a173 := Tryf.isAgg82
  z173 := Tryf.sizeOf82
  v173 := Tryf.zeroValue82
  t212 := Tryf.underlying85
  a212 := Tryf.isAgg85
  z212 := Tryf.sizeOf85
  v212 := Tryf.zeroValue85
  t213 := Tryf.underlying86
  a213 := Tryf.isAgg86
  z213 := Tryf.sizeOf86
  t232 := Tryf.underlying90
  a232 := Tryf.isAgg90
  z232 := Tryf.sizeOf90
  v232 := Tryf.zeroValue90
  t233 := Tryf.underlying91
  a233 := Tryf.isAgg91
  z233 := Tryf.sizeOf91
  v233 := Tryf.zeroValue91
  g17 := by kernel_rfl
  g18 := by kernel_rfl
  g19 := by kernel_rfl
  i0 := by kernel_rfl
  i2 := by kernel_rfl
  i3 := by kernel_rfl
  i4 := by kernel_rfl
  i5 := by kernel_rfl
  i9 := by kernel_rfl
  i20 := by kernel_rfl
  i37 := by kernel_rfl
  i46 := by kernel_rfl
  i51 := by kernel_rfl
  i53 := by kernel_rfl
  i171 := by kernel_rfl
  i173 := by kernel_rfl
  i212 := by kernel_rfl
  i232 := by kernel_rfl
  i233 := by kernel_rfl
  m17 := by kernel_rfl
  m18 := by kernel_rfl
  m19 := by kernel_rfl }
open Go.RowKit Go.Sort Go.Lib in
/-- strconv.Itoa: "Itoa is equivalent to FormatInt(int64(i), 10).": i's DECIMAL NUMERAL ('Lib.itoa': a '-' where i is negative, then the digits), FOR EVERY int. The world behind the call: the world before it, new blocks behind the heap (the library's 'var a [24]byte'), draws. (LAID: no walk: one application.) -/
theorem Tryf.strconv_Itoa (n : Int) (h0 : -9223372036854775808 ≤ n) (h1 : n ≤ 9223372036854775807) (w : World) (htab : Lib.TabIs Tryf.prog w "internal/strconv.uint64pow10" .u64 Lib.pow10Tab) :
    Calls Tryf.prog 37 #[.int .i64 n] w fun e w' => e = .returned (.string ⟨(Lib.itoa n).toArray⟩) ∧ ∃ k os, w' = grow (w.drewN k) os := Any.strconv_Itoa Tryf.laysM171 n h0 h1 w htab
def Tryf.lays171_ren : Go.Shelf.Ren := ⟨fun | 171 => 37 | 243 => 42 | 246 => 45 | 283 => 46 | 284 => 47 | 285 => 48 | 286 => 49 | 129 => 51 | 317 => 50 | 318 => 52 | 319 => 53 | 320 => 54 | 337 => 55 | 338 => 56 | n => n, fun | 3 => 3 | 9 => 9 | 2 => 2 | 4 => 4 | 171 => 79 | 0 => 0 | 53 => 23 | 37 => 37 | 5 => 5 | 173 => 82 | 212 => 85 | 51 => 22 | 20 => 20 | 213 => 86 | 46 => 59 | 232 => 90 | 233 => 91 | n => n, fun | 17 => 3 | 18 => 4 | 19 => 5 | n => n⟩
theorem Tryf.lays171 : Go.Proofs.Lays.n171 Tryf.prog Tryf.lays171_ren := {
  mixed := by kernel_rfl
  f129 := Tryf.func51.trans (congrArg some (by kernel_rfl))
  f171 := Tryf.func37.trans (congrArg some (by kernel_rfl))
  f243 := Tryf.func42.trans (congrArg some (by kernel_rfl))
  f246 := Tryf.func45.trans (congrArg some (by kernel_rfl))
  f283 := Tryf.func46.trans (congrArg some (by kernel_rfl))
  f284 := Tryf.func47.trans (congrArg some (by kernel_rfl))
  f285 := Tryf.func48.trans (congrArg some (by kernel_rfl))
  f286 := Tryf.func49.trans (congrArg some (by kernel_rfl))
  f317 := Tryf.func50.trans (congrArg some (by kernel_rfl))
  f318 := Tryf.func52.trans (congrArg some (by kernel_rfl))
  f319 := Tryf.func53.trans (congrArg some (by kernel_rfl))
  f320 := Tryf.func54.trans (congrArg some (by kernel_rfl))
  f337 := Tryf.func55.trans (congrArg some (by kernel_rfl))
  f338 := Tryf.func56.trans (congrArg some (by kernel_rfl))
  t0 := Tryf.underlying0
  a0 := Tryf.isAgg0
  z0 := Tryf.sizeOf0
  v0 := Tryf.zeroValue0
  t2 := Tryf.underlying2
  a2 := Tryf.isAgg2
  z2 := Tryf.sizeOf2
  v2 := Tryf.zeroValue2
  t3 := Tryf.underlying3
  a3 := Tryf.isAgg3
  z3 := Tryf.sizeOf3
  v3 := Tryf.zeroValue3
  t4 := Tryf.underlying4
  a4 := Tryf.isAgg4
  z4 := Tryf.sizeOf4
  v4 := Tryf.zeroValue4
  t5 := Tryf.underlying5
  a5 := Tryf.isAgg5
  z5 := Tryf.sizeOf5
  v5 := Tryf.zeroValue5
  t9 := Tryf.underlying9
  a9 := Tryf.isAgg9
  z9 := Tryf.sizeOf9
  v9 := Tryf.zeroValue9
  t20 := Tryf.underlying20
  a20 := Tryf.isAgg20
  z20 := Tryf.sizeOf20
  v20 := Tryf.zeroValue20
  t37 := Tryf.underlying37
  a37 := Tryf.isAgg37
  z37 := Tryf.sizeOf37
  v37 := Tryf.zeroValue37
  t46 := Tryf.underlying59
  a46 := Tryf.isAgg59
  z46 := Tryf.sizeOf59
  v46 := Tryf.zeroValue59
  t51 := Tryf.underlying22
  a51 := Tryf.isAgg22
  z51 := Tryf.sizeOf22
  v51 := Tryf.zeroValue22
  t53 := Tryf.underlying23
  a53 := Tryf.isAgg23
  z53 := Tryf.sizeOf23
  v53 := Tryf.zeroValue23
  t171 := Tryf.underlying79
  a171 := Tryf.isAgg79
  z171 := Tryf.sizeOf79
  v171 := Tryf.zeroValue79
  t173 := Tryf.underlying82
  a173 := Tryf.isAgg82
  z173 := Tryf.sizeOf82
  v173 := Tryf.zeroValue82
  t212 := Tryf.underlying85
  a212 := Tryf.isAgg85
  z212 := Tryf.sizeOf85
  v212 := Tryf.zeroValue85
  t213 := Tryf.underlying86
  a213 := Tryf.isAgg86
  z213 := Tryf.sizeOf86
  t232 := Tryf.underlying90
  a232 := Tryf.isAgg90
  z232 := Tryf.sizeOf90
  v232 := Tryf.zeroValue90
  t233 := Tryf.underlying91
  a233 := Tryf.isAgg91
  z233 := Tryf.sizeOf91
  v233 := Tryf.zeroValue91
  g17 := by kernel_rfl
  g18 := by kernel_rfl
  g19 := by kernel_rfl }
open Go.RowKit Go.Sort Go.Lib in
/-- THE ROAD WITHOUT THE TABLE: 0 <= i < 100: NO PREMISE ON THE WORLD, AND THE WORLD IS AS IT WAS: a row that keeps its argument in that range need list no table ('laid = []'). (LAID: no walk: one application.) -/
theorem Tryf.strconv_Itoa_small (i : Nat) (hi : i < 100) (w : World) :
    Calls Tryf.prog 37 #[.int .i64 i] w fun e w' => e = .returned (.string ⟨(Lib.decDigits i).toArray⟩) ∧ w' = w := Any.strconv_Itoa_small Tryf.lays171 i hi w
def Tryf.laysPu14_ren : Go.Shelf.Ren := ⟨fun | 14 => 18 | 16 => 23 | 17 => 24 | 19 => 27 | 20 => 28 | 21 => 29 | 22 => 30 | 23 => 31 | 24 => 32 | 25 => 35 | 27 => 37 | 26 => 36 | 28 => 42 | 29 => 45 | 30 => 46 | 31 => 47 | 32 => 48 | 33 => 49 | 35 => 51 | 34 => 50 | 36 => 52 | 37 => 53 | 38 => 54 | 39 => 55 | 40 => 56 | n => n, fun | 9 => 9 | 3 => 3 | 22 => 23 | 24 => 47 | 25 => 48 | 4 => 4 | 34 => 57 | 5 => 5 | 36 => 59 | 37 => 37 | 0 => 0 | 39 => 60 | 21 => 21 | 44 => 67 | 47 => 72 | 50 => 75 | 48 => 73 | 2 => 2 | 52 => 79 | 55 => 82 | 59 => 85 | 60 => 22 | 20 => 20 | 61 => 86 | 65 => 90 | 66 => 91 | 67 => 94 | n => n, fun | 0 => 0 | 1 => 1 | 2 => 3 | 3 => 4 | 4 => 5 | n => n⟩
theorem Tryf.laysPu14 : Go.Proofs.LaysPu.n14 Tryf.prog Tryf.laysPu14_ren := {
  mixed := by kernel_rfl
  f14 := Tryf.func18.trans (congrArg some (by kernel_rfl))
  f16 := Tryf.func23.trans (congrArg some (by kernel_rfl))
  f17 := Tryf.func24.trans (congrArg some (by kernel_rfl))
  f19 := Tryf.func27.trans (congrArg some (by kernel_rfl))
  f20 := Tryf.func28.trans (congrArg some (by kernel_rfl))
  f21 := Tryf.func29.trans (congrArg some (by kernel_rfl))
  f22 := Tryf.func30.trans (congrArg some (by kernel_rfl))
  f23 := Tryf.func31.trans (congrArg some (by kernel_rfl))
  f24 := Tryf.func32.trans (congrArg some (by kernel_rfl))
  f25 := Tryf.func35.trans (congrArg some (by kernel_rfl))
  f26 := Tryf.func36.trans (congrArg some (by kernel_rfl))
  f27 := Tryf.func37.trans (congrArg some (by kernel_rfl))
  f28 := Tryf.func42.trans (congrArg some (by kernel_rfl))
  f29 := Tryf.func45.trans (congrArg some (by kernel_rfl))
  f30 := Tryf.func46.trans (congrArg some (by kernel_rfl))
  f31 := Tryf.func47.trans (congrArg some (by kernel_rfl))
  f32 := Tryf.func48.trans (congrArg some (by kernel_rfl))
  f33 := Tryf.func49.trans (congrArg some (by kernel_rfl))
  f34 := Tryf.func50.trans (congrArg some (by kernel_rfl))
  f35 := Tryf.func51.trans (congrArg some (by kernel_rfl))
  f36 := Tryf.func52.trans (congrArg some (by kernel_rfl))
  f37 := Tryf.func53.trans (congrArg some (by kernel_rfl))
  f38 := Tryf.func54.trans (congrArg some (by kernel_rfl))
  f39 := Tryf.func55.trans (congrArg some (by kernel_rfl))
  f40 := Tryf.func56.trans (congrArg some (by kernel_rfl))
  t0 := Tryf.underlying0
  a0 := Tryf.isAgg0
  z0 := Tryf.sizeOf0
  v0 := Tryf.zeroValue0
  i0 := by kernel_rfl
  t2 := Tryf.underlying2
  a2 := Tryf.isAgg2
  z2 := Tryf.sizeOf2
  v2 := Tryf.zeroValue2
  i2 := by kernel_rfl
  t3 := Tryf.underlying3
  a3 := Tryf.isAgg3
  z3 := Tryf.sizeOf3
  v3 := Tryf.zeroValue3
  i3 := by kernel_rfl
  t4 := Tryf.underlying4
  a4 := Tryf.isAgg4
  z4 := Tryf.sizeOf4
  v4 := Tryf.zeroValue4
  i4 := by kernel_rfl
  t5 := Tryf.underlying5
  a5 := Tryf.isAgg5
  z5 := Tryf.sizeOf5
  v5 := Tryf.zeroValue5
  i5 := by kernel_rfl
  t9 := Tryf.underlying9
  a9 := Tryf.isAgg9
  z9 := Tryf.sizeOf9
  v9 := Tryf.zeroValue9
  i9 := by kernel_rfl
  t20 := Tryf.underlying20
  a20 := Tryf.isAgg20
  z20 := Tryf.sizeOf20
  v20 := Tryf.zeroValue20
  i20 := by kernel_rfl
  t21 := Tryf.underlying21
  a21 := Tryf.isAgg21
  z21 := Tryf.sizeOf21
  v21 := Tryf.zeroValue21
  i21 := by kernel_rfl
  t22 := Tryf.underlying23
  a22 := Tryf.isAgg23
  z22 := Tryf.sizeOf23
  v22 := Tryf.zeroValue23
  i22 := by kernel_rfl
  t24 := Tryf.underlying47
  a24 := Tryf.isAgg47
  z24 := Tryf.sizeOf47
  v24 := Tryf.zeroValue47
  i24 := by kernel_rfl
  t25 := Tryf.underlying48
  a25 := Tryf.isAgg48
  z25 := Tryf.sizeOf48
  v25 := Tryf.zeroValue48
  i25 := by kernel_rfl
  t34 := Tryf.underlying57
  a34 := Tryf.isAgg57
  z34 := Tryf.sizeOf57
  v34 := Tryf.zeroValue57
  i34 := by kernel_rfl
  c34 := by kernel_rfl
  t36 := Tryf.underlying59
  a36 := Tryf.isAgg59
  z36 := Tryf.sizeOf59
  v36 := Tryf.zeroValue59
  i36 := by kernel_rfl
  t37 := Tryf.underlying37
  a37 := Tryf.isAgg37
  z37 := Tryf.sizeOf37
  v37 := Tryf.zeroValue37
  i37 := by kernel_rfl
  t39 := Tryf.underlying60
  a39 := Tryf.isAgg60
  z39 := Tryf.sizeOf60
  v39 := Tryf.zeroValue60
  i39 := by kernel_rfl
  t44 := Tryf.underlying67
  a44 := Tryf.isAgg67
  z44 := Tryf.sizeOf67
  v44 := Tryf.zeroValue67
  i44 := by kernel_rfl
  t47 := Tryf.underlying72
  a47 := Tryf.isAgg72
  z47 := Tryf.sizeOf72
  v47 := Tryf.zeroValue72
  i47 := by kernel_rfl
  t48 := Tryf.underlying73
  a48 := Tryf.isAgg73
  z48 := Tryf.sizeOf73
  v48 := Tryf.zeroValue73
  i48 := by kernel_rfl
  t50 := Tryf.underlying75
  a50 := Tryf.isAgg75
  z50 := Tryf.sizeOf75
  v50 := Tryf.zeroValue75
  i50 := by kernel_rfl
  t52 := Tryf.underlying79
  a52 := Tryf.isAgg79
  z52 := Tryf.sizeOf79
  v52 := Tryf.zeroValue79
  i52 := by kernel_rfl
  t55 := Tryf.underlying82
  a55 := Tryf.isAgg82
  z55 := Tryf.sizeOf82
  v55 := Tryf.zeroValue82
  i55 := by kernel_rfl
  t59 := Tryf.underlying85
  a59 := Tryf.isAgg85
  z59 := Tryf.sizeOf85
  v59 := Tryf.zeroValue85
  i59 := by kernel_rfl
  t60 := Tryf.underlying22
  a60 := Tryf.isAgg22
  z60 := Tryf.sizeOf22
  v60 := Tryf.zeroValue22
  i60 := by kernel_rfl
  t61 := Tryf.underlying86
  a61 := Tryf.isAgg86
  z61 := Tryf.sizeOf86
  t65 := Tryf.underlying90
  a65 := Tryf.isAgg90
  z65 := Tryf.sizeOf90
  v65 := Tryf.zeroValue90
  i65 := by kernel_rfl
  t66 := Tryf.underlying91
  a66 := Tryf.isAgg91
  z66 := Tryf.sizeOf91
  v66 := Tryf.zeroValue91
  i66 := by kernel_rfl
  t67 := Tryf.underlying94
  a67 := Tryf.isAgg94
  z67 := Tryf.sizeOf94
  v67 := Tryf.zeroValue94
  i67 := by kernel_rfl
  g0 := by kernel_rfl
  m0 := by kernel_rfl
  g1 := by kernel_rfl
  m1 := by kernel_rfl
  g2 := by kernel_rfl
  m2 := by kernel_rfl
  g3 := by kernel_rfl
  m3 := by kernel_rfl
  g4 := by kernel_rfl
  m4 := by kernel_rfl }
open Go.RowKit in
/-- strconv.ParseUint(s, 10, 64), AT EVERY STRING THAT SPELLS A uint64 ('Lib.parseUintB 64 s.data.toList = .ok u'): u, AND NO ERROR. (LAID: no walk: one application.) -/
theorem Tryf.strconv_ParseUint_10_at64_ok (s : ByteArray) (hmax : s.size ≤ 9223372036854775806) (u : Nat) (h : Lib.parseUintB 64 s.data.toList = .ok u) (w : World) :
    Calls Tryf.prog 18 #[.string s, .int .i64 10, .int .i64 64] w fun e w' => e = .returned (.tuple #[.int .u64 u, .nilIface]) ∧ (w' = w ∨ w' = Lib.bytesWorld w 5 s) := Any.strconv_ParseUint_10_at64_ok Tryf.laysPu14 s hmax u h w
def Tryf.lays217_ren : Go.Shelf.Ren := ⟨fun | 217 => 38 | 266 => 43 | n => n, fun | 9 => 9 | 5 => 5 | 3 => 3 | n => n, fun | n => n⟩
theorem Tryf.lays217 : Go.Proofs.Lays.n217 Tryf.prog Tryf.lays217_ren := {
  mixed := by kernel_rfl
  f217 := Tryf.func38.trans (congrArg some (by kernel_rfl))
  f266 := Tryf.func43.trans (congrArg some (by kernel_rfl))
  t3 := Tryf.underlying3
  a3 := Tryf.isAgg3
  z3 := Tryf.sizeOf3
  v3 := Tryf.zeroValue3
  t5 := Tryf.underlying5
  a5 := Tryf.isAgg5
  z5 := Tryf.sizeOf5
  v5 := Tryf.zeroValue5
  t9 := Tryf.underlying9
  a9 := Tryf.isAgg9
  z9 := Tryf.sizeOf9
  v9 := Tryf.zeroValue9 }
open Go.RowKit Go.Lib in
/-- internal/stringslite.IndexByte (what strings.IndexByte calls): IT RETURNS 'Lib.indexByte s c'; the world is as it was. (LAID: no walk: one application.) -/
theorem Tryf.stringslite_IndexByte (s : ByteArray) (c : Int) (w : World) :
    Calls Tryf.prog 38 #[.string s, .int .u8 c] w fun e w' => e = .returned (.int .i64 (Lib.indexByte s.data.toList c.toNat.toUInt8)) ∧ w' = w := Any.stringslite_IndexByte Tryf.lays217 s c w
def Tryf.lays224_ren : Go.Shelf.Ren := ⟨fun | 224 => 40 | n => n, fun | 3 => 3 | n => n, fun | n => n⟩
theorem Tryf.lays224 : Go.Proofs.Lays.n224 Tryf.prog Tryf.lays224_ren := {
  mixed := by kernel_rfl
  f224 := Tryf.func40.trans (congrArg some (by kernel_rfl))
  t3 := Tryf.underlying3
  a3 := Tryf.isAgg3
  z3 := Tryf.sizeOf3
  v3 := Tryf.zeroValue3 }
open Go.RowKit Go.Lib in
/-- internal/bytealg.Cutover: "Cutover reports the number of failures of IndexByte we should tolerate before switching over to Index. n is the number of bytes processed so far.": on amd64: (n + 16) / 8. (LAID: no walk: one application.) -/
theorem Tryf.bytealg_Cutover (n : Int) (h0 : 0 ≤ n) (h1 : n < 4611686018427387904) (w : World) :
    Calls Tryf.prog 40 #[.int .i64 n] w fun e w' => e = .returned (.int .i64 ((n + 16) / 8)) ∧ w' = w := Any.bytealg_Cutover Tryf.lays224 n h0 h1 w
def Tryf.lays314_ren : Go.Shelf.Ren := ⟨fun | 314 => 44 | n => n, fun | 9 => 9 | 51 => 22 | 3 => 3 | 4 => 4 | 5 => 5 | 46 => 59 | n => n, fun | n => n⟩
theorem Tryf.lays314 : Go.Proofs.Lays.n314 Tryf.prog Tryf.lays314_ren := {
  mixed := by kernel_rfl
  f314 := Tryf.func44.trans (congrArg some (by kernel_rfl))
  t3 := Tryf.underlying3
  a3 := Tryf.isAgg3
  z3 := Tryf.sizeOf3
  v3 := Tryf.zeroValue3
  t4 := Tryf.underlying4
  a4 := Tryf.isAgg4
  z4 := Tryf.sizeOf4
  v4 := Tryf.zeroValue4
  t5 := Tryf.underlying5
  a5 := Tryf.isAgg5
  z5 := Tryf.sizeOf5
  v5 := Tryf.zeroValue5
  t9 := Tryf.underlying9
  a9 := Tryf.isAgg9
  z9 := Tryf.sizeOf9
  v9 := Tryf.zeroValue9
  t46 := Tryf.underlying59
  a46 := Tryf.isAgg59
  z46 := Tryf.sizeOf59
  v46 := Tryf.zeroValue59
  t51 := Tryf.underlying22
  a51 := Tryf.isAgg22
  z51 := Tryf.sizeOf22
  v51 := Tryf.zeroValue22 }
open Go.RowKit Go.Lib in
/-- hashStr: "returns the hash and the appropriate multiplicative factor for use in Rabin-Karp algorithm": THE HASH OF ALL OF sep, AND 16777619 ^ len(sep), both in uint32. (LAID: no walk: one application.) -/
theorem Tryf.bytealg_hashStr (sep : ByteArray) (hs : sep.size < 4294967281) (w : World) :
    Calls Tryf.prog 44 #[.string sep] w fun e w' => e = .returned (.tuple #[.int .u32 (RK.H sep.data.toList % 4294967296), .int .u32 (16777619 ^ sep.size % 4294967296)]) ∧ w' = w := Any.bytealg_hashStr Tryf.lays314 sep hs w
def Tryf.lays267_ren : Go.Shelf.Ren := ⟨fun | 267 => 41 | 314 => 44 | n => n, fun | 9 => 9 | 3 => 3 | 146 => 76 | 51 => 22 | 4 => 4 | 5 => 5 | 46 => 59 | n => n, fun | n => n⟩
theorem Tryf.lays267 : Go.Proofs.Lays.n267 Tryf.prog Tryf.lays267_ren := {
  mixed := by kernel_rfl
  f267 := Tryf.func41.trans (congrArg some (by kernel_rfl))
  f314 := Tryf.func44.trans (congrArg some (by kernel_rfl))
  t3 := Tryf.underlying3
  a3 := Tryf.isAgg3
  z3 := Tryf.sizeOf3
  v3 := Tryf.zeroValue3
  t4 := Tryf.underlying4
  a4 := Tryf.isAgg4
  z4 := Tryf.sizeOf4
  v4 := Tryf.zeroValue4
  t5 := Tryf.underlying5
  a5 := Tryf.isAgg5
  z5 := Tryf.sizeOf5
  v5 := Tryf.zeroValue5
  t9 := Tryf.underlying9
  a9 := Tryf.isAgg9
  z9 := Tryf.sizeOf9
  v9 := Tryf.zeroValue9
  t46 := Tryf.underlying59
  a46 := Tryf.isAgg59
  z46 := Tryf.sizeOf59
  v46 := Tryf.zeroValue59
  t51 := Tryf.underlying22
  a51 := Tryf.isAgg22
  z51 := Tryf.sizeOf22
  v51 := Tryf.zeroValue22
  t146 := Tryf.underlying76
  a146 := Tryf.isAgg76
  z146 := Tryf.sizeOf76
  v146 := Tryf.zeroValue76 }
open Go.RowKit Go.Lib in
theorem Tryf.bytealg_IndexRabinKarp (s sep : ByteArray) (h1 : 1 ≤ sep.size) (h2 : sep.size ≤ s.size) (hs : s.size < 4294967281) (w : World) :
    Calls Tryf.prog 41 #[.string s, .string sep] w fun e w' => e = .returned (.int .i64 (Lib.index s.data.toList sep.data.toList)) ∧ w' = w := Any.bytealg_IndexRabinKarp Tryf.lays267 s sep h1 h2 hs w
def Tryf.lays219_ren : Go.Shelf.Ren := ⟨fun | 219 => 33 | 217 => 38 | 225 => 39 | 224 => 40 | 267 => 41 | 266 => 43 | 314 => 44 | n => n, fun | 9 => 9 | 3 => 3 | 4 => 4 | 5 => 5 | 46 => 59 | 146 => 76 | 51 => 22 | n => n, fun | 1 => 2 | n => n⟩
theorem Tryf.lays219 : Go.Proofs.Lays.n219 Tryf.prog Tryf.lays219_ren := {
  mixed := by kernel_rfl
  f217 := Tryf.func38.trans (congrArg some (by kernel_rfl))
  f219 := Tryf.func33.trans (congrArg some (by kernel_rfl))
  f224 := Tryf.func40.trans (congrArg some (by kernel_rfl))
  f225 := Tryf.func39.trans (congrArg some (by kernel_rfl))
  f266 := Tryf.func43.trans (congrArg some (by kernel_rfl))
  f267 := Tryf.func41.trans (congrArg some (by kernel_rfl))
  f314 := Tryf.func44.trans (congrArg some (by kernel_rfl))
  t3 := Tryf.underlying3
  a3 := Tryf.isAgg3
  z3 := Tryf.sizeOf3
  v3 := Tryf.zeroValue3
  t4 := Tryf.underlying4
  a4 := Tryf.isAgg4
  z4 := Tryf.sizeOf4
  v4 := Tryf.zeroValue4
  t5 := Tryf.underlying5
  a5 := Tryf.isAgg5
  z5 := Tryf.sizeOf5
  v5 := Tryf.zeroValue5
  t9 := Tryf.underlying9
  a9 := Tryf.isAgg9
  z9 := Tryf.sizeOf9
  v9 := Tryf.zeroValue9
  t46 := Tryf.underlying59
  a46 := Tryf.isAgg59
  z46 := Tryf.sizeOf59
  v46 := Tryf.zeroValue59
  t51 := Tryf.underlying22
  a51 := Tryf.isAgg22
  z51 := Tryf.sizeOf22
  v51 := Tryf.zeroValue22
  t146 := Tryf.underlying76
  a146 := Tryf.isAgg76
  z146 := Tryf.sizeOf76
  v146 := Tryf.zeroValue76
  g1 := by kernel_rfl }
open Go.RowKit Go.Lib in
/-- internal/stringslite.Index (what strings.Index calls) AT A substr OF ONE BYTE c: IT RETURNS 'Lib.indexByte s c'; the world is as it was. (LAID: no walk: one application.) -/
theorem Tryf.stringslite_Index_one (s : ByteArray) (c : UInt8) (w : World) :
    Calls Tryf.prog 33 #[.string s, .string ⟨#[c]⟩] w fun e w' => e = .returned (.int .i64 (Lib.indexByte s.data.toList c)) ∧ w' = w := Any.stringslite_Index_one Tryf.lays219 s c w
open Go.RowKit Go.Lib in
/-- internal/stringslite.Index (what strings.Index calls) AT A substr OF WHATEVER LENGTH: IT RETURNS 'Lib.index s substr'; the world is as it was. 'm': what internal/bytealg.MaxLen holds: whatever. (LAID: no walk: one application.) -/
theorem Tryf.stringslite_Index (s sub : ByteArray) (m : Int) (w : World) (hs : s.size < 4294967281) (hm : w.cell? ⟨2, 0, none⟩ = some (.int .i64 m)) :
    Calls Tryf.prog 33 #[.string s, .string sub] w fun e w' => e = .returned (.int .i64 (Lib.index s.data.toList sub.data.toList)) ∧ w' = w := Any.stringslite_Index Tryf.lays219 s sub m w hs hm
def Tryf.lays220_ren : Go.Shelf.Ren := ⟨fun | 220 => 25 | 219 => 33 | 217 => 38 | 225 => 39 | 224 => 40 | 267 => 41 | 266 => 43 | 314 => 44 | n => n, fun | 9 => 9 | 4 => 4 | 3 => 3 | 5 => 5 | 46 => 59 | 146 => 76 | 51 => 22 | n => n, fun | 1 => 2 | n => n⟩
theorem Tryf.lays220 : Go.Proofs.Lays.n220 Tryf.prog Tryf.lays220_ren := {
  mixed := by kernel_rfl
  f217 := Tryf.func38.trans (congrArg some (by kernel_rfl))
  f219 := Tryf.func33.trans (congrArg some (by kernel_rfl))
  f220 := Tryf.func25.trans (congrArg some (by kernel_rfl))
  f224 := Tryf.func40.trans (congrArg some (by kernel_rfl))
  f225 := Tryf.func39.trans (congrArg some (by kernel_rfl))
  f266 := Tryf.func43.trans (congrArg some (by kernel_rfl))
  f267 := Tryf.func41.trans (congrArg some (by kernel_rfl))
  f314 := Tryf.func44.trans (congrArg some (by kernel_rfl))
  t3 := Tryf.underlying3
  a3 := Tryf.isAgg3
  z3 := Tryf.sizeOf3
  v3 := Tryf.zeroValue3
  t4 := Tryf.underlying4
  a4 := Tryf.isAgg4
  z4 := Tryf.sizeOf4
  v4 := Tryf.zeroValue4
  t5 := Tryf.underlying5
  a5 := Tryf.isAgg5
  z5 := Tryf.sizeOf5
  v5 := Tryf.zeroValue5
  t9 := Tryf.underlying9
  a9 := Tryf.isAgg9
  z9 := Tryf.sizeOf9
  v9 := Tryf.zeroValue9
  t46 := Tryf.underlying59
  a46 := Tryf.isAgg59
  z46 := Tryf.sizeOf59
  v46 := Tryf.zeroValue59
  t51 := Tryf.underlying22
  a51 := Tryf.isAgg22
  z51 := Tryf.sizeOf22
  v51 := Tryf.zeroValue22
  t146 := Tryf.underlying76
  a146 := Tryf.isAgg76
  z146 := Tryf.sizeOf76
  v146 := Tryf.zeroValue76
  g1 := by kernel_rfl }
open Go.RowKit Go.Lib in
/-- internal/stringslite.Cut (what strings.Cut calls): IT RETURNS 'Lib.cut s sep'; the world is as it was but for the count of draws. (LAID: no walk: one application.) -/
theorem Tryf.stringslite_Cut (s sep : ByteArray) (m : Int) (w : World) (hs : s.size < 4294967281) (hm : w.cell? ⟨2, 0, none⟩ = some (.int .i64 m)) :
    Calls Tryf.prog 25 #[.string s, .string sep] w fun e w' => e = .returned (.tuple #[.string ⟨(Lib.cut s.data.toList sep.data.toList).1.toArray⟩, .string ⟨(Lib.cut s.data.toList sep.data.toList).2.1.toArray⟩, .bool (Lib.cut s.data.toList sep.data.toList).2.2]) ∧ ∃ n, w' = w.drewN n := Any.stringslite_Cut Tryf.lays220 s sep m w hs hm
def Tryf.lays145_ren : Go.Shelf.Ren := ⟨fun | 145 => 19 | 220 => 25 | 219 => 33 | 217 => 38 | 225 => 39 | 224 => 40 | 267 => 41 | 266 => 43 | 314 => 44 | n => n, fun | 9 => 9 | 4 => 4 | 59 => 50 | 3 => 3 | 5 => 5 | 46 => 59 | 146 => 76 | 51 => 22 | n => n, fun | 1 => 2 | n => n⟩
theorem Tryf.lays145 : Go.Proofs.Lays.n145 Tryf.prog Tryf.lays145_ren := {
  mixed := by kernel_rfl
  f145 := Tryf.func19.trans (congrArg some (by kernel_rfl))
  f217 := Tryf.func38.trans (congrArg some (by kernel_rfl))
  f219 := Tryf.func33.trans (congrArg some (by kernel_rfl))
  f220 := Tryf.func25.trans (congrArg some (by kernel_rfl))
  f224 := Tryf.func40.trans (congrArg some (by kernel_rfl))
  f225 := Tryf.func39.trans (congrArg some (by kernel_rfl))
  f266 := Tryf.func43.trans (congrArg some (by kernel_rfl))
  f267 := Tryf.func41.trans (congrArg some (by kernel_rfl))
  f314 := Tryf.func44.trans (congrArg some (by kernel_rfl))
  t3 := Tryf.underlying3
  a3 := Tryf.isAgg3
  z3 := Tryf.sizeOf3
  v3 := Tryf.zeroValue3
  t4 := Tryf.underlying4
  a4 := Tryf.isAgg4
  z4 := Tryf.sizeOf4
  v4 := Tryf.zeroValue4
  t5 := Tryf.underlying5
  a5 := Tryf.isAgg5
  z5 := Tryf.sizeOf5
  v5 := Tryf.zeroValue5
  t9 := Tryf.underlying9
  a9 := Tryf.isAgg9
  z9 := Tryf.sizeOf9
  v9 := Tryf.zeroValue9
  t46 := Tryf.underlying59
  a46 := Tryf.isAgg59
  z46 := Tryf.sizeOf59
  v46 := Tryf.zeroValue59
  t51 := Tryf.underlying22
  a51 := Tryf.isAgg22
  z51 := Tryf.sizeOf22
  v51 := Tryf.zeroValue22
  t59 := Tryf.underlying50
  a59 := Tryf.isAgg50
  z59 := Tryf.sizeOf50
  v59 := Tryf.zeroValue50
  t146 := Tryf.underlying76
  a146 := Tryf.isAgg76
  z146 := Tryf.sizeOf76
  v146 := Tryf.zeroValue76
  g1 := by kernel_rfl }
open Go.RowKit Go.Lib in
/-- strings.Cut: "Cut slices s around the first instance of sep, returning the text before and after sep. The found result reports whether sep appears in s. If sep does not appear in s, cut returns s, "", false.": IT RETURNS 'Lib.cut s sep'; the world is as it was but for the count of draws. (LAID: no walk: one application.) -/
theorem Tryf.strings_Cut (s sep : ByteArray) (m : Int) (w : World) (hs : s.size < 4294967281) (hm : w.cell? ⟨2, 0, none⟩ = some (.int .i64 m)) :
    Calls Tryf.prog 19 #[.string s, .string sep] w fun e w' => e = .returned (.tuple #[.string ⟨(Lib.cut s.data.toList sep.data.toList).1.toArray⟩, .string ⟨(Lib.cut s.data.toList sep.data.toList).2.1.toArray⟩, .bool (Lib.cut s.data.toList sep.data.toList).2.2]) ∧ ∃ n, w' = w.drewN n := Any.strings_Cut Tryf.lays145 s sep m w hs hm
def Tryf.laysM219_ren : Go.Shelf.Ren := ⟨fun | 219 => 33 | 217 => 38 | 225 => 39 | 224 => 40 | 267 => 41 | 266 => 43 | 314 => 44 | n => n, fun | 9 => 9 | 3 => 3 | 4 => 4 | 5 => 5 | 46 => 59 | 146 => 76 | 51 => 22 | n => n, fun | 1 => 2 | n => n⟩
theorem Tryf.laysM219 : Go.Proofs.LaysM.n219 Tryf.prog Tryf.laysM219_ren := {
  mixed := by kernel_rfl
  f217 := Tryf.func38.trans (congrArg some (by kernel_rfl))
  f219 := Tryf.func33.trans (congrArg some (by kernel_rfl))
  f224 := Tryf.func40.trans (congrArg some (by kernel_rfl))
  f225 := Tryf.func39.trans (congrArg some (by kernel_rfl))
  f266 := Tryf.func43.trans (congrArg some (by kernel_rfl))
  f267 := Tryf.func41.trans (congrArg some (by kernel_rfl))
  f314 := Tryf.func44.trans (congrArg some (by kernel_rfl))
  t3 := Tryf.underlying3
  a3 := Tryf.isAgg3
  z3 := Tryf.sizeOf3
  v3 := Tryf.zeroValue3
  t4 := Tryf.underlying4
  a4 := Tryf.isAgg4
  z4 := Tryf.sizeOf4
  v4 := Tryf.zeroValue4
  t5 := Tryf.underlying5
  a5 := Tryf.isAgg5
  z5 := Tryf.sizeOf5
  v5 := Tryf.zeroValue5
  t9 := Tryf.underlying9
  a9 := Tryf.isAgg9
  z9 := Tryf.sizeOf9
  v9 := Tryf.zeroValue9
  t46 := Tryf.underlying59
  a46 := Tryf.isAgg59
  z46 := Tryf.sizeOf59
  v46 := Tryf.zeroValue59
  t51 := Tryf.underlying22
  a51 := Tryf.isAgg22
  z51 := Tryf.sizeOf22
  v51 := Tryf.zeroValue22
  t146 := Tryf.underlying76
  a146 := Tryf.isAgg76
  z146 := Tryf.sizeOf76
  v146 := Tryf.zeroValue76
  g1 := by kernel_rfl
  i3 := by kernel_rfl
  i4 := by kernel_rfl
  i5 := by kernel_rfl
  i9 := by kernel_rfl
  i46 := by kernel_rfl
  i51 := by kernel_rfl
  i146 := by kernel_rfl
  m1 := by kernel_rfl
  s1_3 := fun w h => Go.Proofs.cell_of_shapedOpen_int (zero := #[.int .i64 0]) (t := 3) h (of_decide_eq_true (by kernel_rfl)) (by kernel_rfl) rfl (by kernel_rfl) (by kernel_rfl) Tryf.underlying3 }
open Go.RowKit Go.Lib in
theorem Tryf.stringslite_Index_shaped (s sub : ByteArray) (w : World) (h : w.ShapedOpen Tryf.prog) (hs : s.size < 4294967281) :
    Calls Tryf.prog 33 #[.string s, .string sub] w fun e w' => e = .returned (.int .i64 (Lib.index s.data.toList sub.data.toList)) ∧ w' = w := Any.stringslite_Index_shaped Tryf.laysM219 s sub w h hs
def Tryf.laysM220_ren : Go.Shelf.Ren := ⟨fun | 220 => 25 | 219 => 33 | 217 => 38 | 225 => 39 | 224 => 40 | 267 => 41 | 266 => 43 | 314 => 44 | n => n, fun | 9 => 9 | 4 => 4 | 3 => 3 | 5 => 5 | 46 => 59 | 146 => 76 | 51 => 22 | n => n, fun | 1 => 2 | n => n⟩
theorem Tryf.laysM220 : Go.Proofs.LaysM.n220 Tryf.prog Tryf.laysM220_ren := {
  mixed := by kernel_rfl
  f217 := Tryf.func38.trans (congrArg some (by kernel_rfl))
  f219 := Tryf.func33.trans (congrArg some (by kernel_rfl))
  f220 := Tryf.func25.trans (congrArg some (by kernel_rfl))
  f224 := Tryf.func40.trans (congrArg some (by kernel_rfl))
  f225 := Tryf.func39.trans (congrArg some (by kernel_rfl))
  f266 := Tryf.func43.trans (congrArg some (by kernel_rfl))
  f267 := Tryf.func41.trans (congrArg some (by kernel_rfl))
  f314 := Tryf.func44.trans (congrArg some (by kernel_rfl))
  t3 := Tryf.underlying3
  a3 := Tryf.isAgg3
  z3 := Tryf.sizeOf3
  v3 := Tryf.zeroValue3
  t4 := Tryf.underlying4
  a4 := Tryf.isAgg4
  z4 := Tryf.sizeOf4
  v4 := Tryf.zeroValue4
  t5 := Tryf.underlying5
  a5 := Tryf.isAgg5
  z5 := Tryf.sizeOf5
  v5 := Tryf.zeroValue5
  t9 := Tryf.underlying9
  a9 := Tryf.isAgg9
  z9 := Tryf.sizeOf9
  v9 := Tryf.zeroValue9
  t46 := Tryf.underlying59
  a46 := Tryf.isAgg59
  z46 := Tryf.sizeOf59
  v46 := Tryf.zeroValue59
  t51 := Tryf.underlying22
  a51 := Tryf.isAgg22
  z51 := Tryf.sizeOf22
  v51 := Tryf.zeroValue22
  t146 := Tryf.underlying76
  a146 := Tryf.isAgg76
  z146 := Tryf.sizeOf76
  v146 := Tryf.zeroValue76
  g1 := by kernel_rfl
  i3 := by kernel_rfl
  i4 := by kernel_rfl
  i5 := by kernel_rfl
  i9 := by kernel_rfl
  i46 := by kernel_rfl
  i51 := by kernel_rfl
  i146 := by kernel_rfl
  m1 := by kernel_rfl
  s1_3 := fun w h => Go.Proofs.cell_of_shapedOpen_int (zero := #[.int .i64 0]) (t := 3) h (of_decide_eq_true (by kernel_rfl)) (by kernel_rfl) rfl (by kernel_rfl) (by kernel_rfl) Tryf.underlying3 }
open Go.RowKit Go.Lib in
theorem Tryf.stringslite_Cut_shaped (s sep : ByteArray) (w : World) (h : w.ShapedOpen Tryf.prog) (hs : s.size < 4294967281) :
    Calls Tryf.prog 25 #[.string s, .string sep] w fun e w' => e = .returned (.tuple #[.string ⟨(Lib.cut s.data.toList sep.data.toList).1.toArray⟩, .string ⟨(Lib.cut s.data.toList sep.data.toList).2.1.toArray⟩, .bool (Lib.cut s.data.toList sep.data.toList).2.2]) ∧ ∃ n, w' = w.drewN n := Any.stringslite_Cut_shaped Tryf.laysM220 s sep w h hs
def Tryf.laysM145_ren : Go.Shelf.Ren := ⟨fun | 145 => 19 | 220 => 25 | 219 => 33 | 217 => 38 | 225 => 39 | 224 => 40 | 267 => 41 | 266 => 43 | 314 => 44 | n => n, fun | 9 => 9 | 4 => 4 | 59 => 50 | 3 => 3 | 5 => 5 | 46 => 59 | 146 => 76 | 51 => 22 | n => n, fun | 1 => 2 | n => n⟩
theorem Tryf.laysM145 : Go.Proofs.LaysM.n145 Tryf.prog Tryf.laysM145_ren := {
  mixed := by kernel_rfl
  f145 := Tryf.func19.trans (congrArg some (by kernel_rfl))
  f217 := Tryf.func38.trans (congrArg some (by kernel_rfl))
  f219 := Tryf.func33.trans (congrArg some (by kernel_rfl))
  f220 := Tryf.func25.trans (congrArg some (by kernel_rfl))
  f224 := Tryf.func40.trans (congrArg some (by kernel_rfl))
  f225 := Tryf.func39.trans (congrArg some (by kernel_rfl))
  f266 := Tryf.func43.trans (congrArg some (by kernel_rfl))
  f267 := Tryf.func41.trans (congrArg some (by kernel_rfl))
  f314 := Tryf.func44.trans (congrArg some (by kernel_rfl))
  t3 := Tryf.underlying3
  a3 := Tryf.isAgg3
  z3 := Tryf.sizeOf3
  v3 := Tryf.zeroValue3
  t4 := Tryf.underlying4
  a4 := Tryf.isAgg4
  z4 := Tryf.sizeOf4
  v4 := Tryf.zeroValue4
  t5 := Tryf.underlying5
  a5 := Tryf.isAgg5
  z5 := Tryf.sizeOf5
  v5 := Tryf.zeroValue5
  t9 := Tryf.underlying9
  a9 := Tryf.isAgg9
  z9 := Tryf.sizeOf9
  v9 := Tryf.zeroValue9
  t46 := Tryf.underlying59
  a46 := Tryf.isAgg59
  z46 := Tryf.sizeOf59
  v46 := Tryf.zeroValue59
  t51 := Tryf.underlying22
  a51 := Tryf.isAgg22
  z51 := Tryf.sizeOf22
  v51 := Tryf.zeroValue22
  t59 := Tryf.underlying50
  a59 := Tryf.isAgg50
  z59 := Tryf.sizeOf50
  v59 := Tryf.zeroValue50
  t146 := Tryf.underlying76
  a146 := Tryf.isAgg76
  z146 := Tryf.sizeOf76
  v146 := Tryf.zeroValue76
  g1 := by kernel_rfl
  i3 := by kernel_rfl
  i4 := by kernel_rfl
  i5 := by kernel_rfl
  i9 := by kernel_rfl
  i46 := by kernel_rfl
  i51 := by kernel_rfl
  i59 := by kernel_rfl
  i146 := by kernel_rfl
  m1 := by kernel_rfl
  s1_3 := fun w h => Go.Proofs.cell_of_shapedOpen_int (zero := #[.int .i64 0]) (t := 3) h (of_decide_eq_true (by kernel_rfl)) (by kernel_rfl) rfl (by kernel_rfl) (by kernel_rfl) Tryf.underlying3 }
open Go.RowKit Go.Lib in
theorem Tryf.strings_Cut_shaped (s sep : ByteArray) (w : World) (h : w.ShapedOpen Tryf.prog) (hs : s.size < 4294967281) :
    Calls Tryf.prog 19 #[.string s, .string sep] w fun e w' => e = .returned (.tuple #[.string ⟨(Lib.cut s.data.toList sep.data.toList).1.toArray⟩, .string ⟨(Lib.cut s.data.toList sep.data.toList).2.1.toArray⟩, .bool (Lib.cut s.data.toList sep.data.toList).2.2]) ∧ ∃ n, w' = w.drewN n := Any.strings_Cut_shaped Tryf.laysM145 s sep w h hs
def Tryf.lays315_ren : Go.Shelf.Ren := ⟨fun | 315 => 34 | n => n, fun | 9 => 9 | 40 => 54 | 4 => 4 | 3 => 3 | 0 => 0 | 21 => 21 | n => n, fun | n => n⟩
theorem Tryf.lays315 : Go.Proofs.Lays.n315 Tryf.prog Tryf.lays315_ren := {
  mixed := by kernel_rfl
  f315 := Tryf.func34.trans (congrArg some (by kernel_rfl))
  t0 := Tryf.underlying0
  a0 := Tryf.isAgg0
  z0 := Tryf.sizeOf0
  v0 := Tryf.zeroValue0
  t3 := Tryf.underlying3
  a3 := Tryf.isAgg3
  z3 := Tryf.sizeOf3
  v3 := Tryf.zeroValue3
  t4 := Tryf.underlying4
  a4 := Tryf.isAgg4
  z4 := Tryf.sizeOf4
  v4 := Tryf.zeroValue4
  t9 := Tryf.underlying9
  a9 := Tryf.isAgg9
  z9 := Tryf.sizeOf9
  v9 := Tryf.zeroValue9
  t21 := Tryf.underlying21
  a21 := Tryf.isAgg21
  z21 := Tryf.sizeOf21
  v21 := Tryf.zeroValue21
  t40 := Tryf.underlying54
  a40 := Tryf.isAgg54
  z40 := Tryf.sizeOf54
  v40 := Tryf.zeroValue54 }
open Go.RowKit Go.Lib in
theorem Tryf.strings_indexFunc (g : Nat) (lb : Array Value) (eg : ∀ args w, (callFunc g args).run Tryf.prog w = .ok (.enter g args) w) (p : Nat → Bool) (truth : Bool) (s : ByteArray) (w : World) (hp : PredAt Tryf.prog g lb encR p w) :
    Calls Tryf.prog 34 #[.string s, .func (.func g) #[] lb, .bool truth] w fun e w' => e = .returned (.int .i64 (Lib.idxFunc p truth s)) ∧ Below w.heap.size w w' := Any.strings_indexFunc Tryf.lays315 g lb eg p truth s w hp
def Tryf.laysGw15_ren : Go.Shelf.Ren := ⟨fun | 15 => 26 | 20 => 34 | n => n, fun | 9 => 9 | 23 => 54 | 3 => 3 | 4 => 4 | 0 => 0 | 21 => 21 | n => n, fun | n => n⟩
theorem Tryf.laysGw15 : Go.Proofs.LaysGw.n15 Tryf.prog Tryf.laysGw15_ren := {
  mixed := by kernel_rfl
  f15 := Tryf.func26.trans (congrArg some (by kernel_rfl))
  f20 := Tryf.func34.trans (congrArg some (by kernel_rfl))
  t0 := Tryf.underlying0
  a0 := Tryf.isAgg0
  z0 := Tryf.sizeOf0
  v0 := Tryf.zeroValue0
  i0 := by kernel_rfl
  t3 := Tryf.underlying3
  a3 := Tryf.isAgg3
  z3 := Tryf.sizeOf3
  v3 := Tryf.zeroValue3
  i3 := by kernel_rfl
  t4 := Tryf.underlying4
  a4 := Tryf.isAgg4
  z4 := Tryf.sizeOf4
  v4 := Tryf.zeroValue4
  i4 := by kernel_rfl
  t9 := Tryf.underlying9
  a9 := Tryf.isAgg9
  z9 := Tryf.sizeOf9
  v9 := Tryf.zeroValue9
  i9 := by kernel_rfl
  t21 := Tryf.underlying21
  a21 := Tryf.isAgg21
  z21 := Tryf.sizeOf21
  v21 := Tryf.zeroValue21
  i21 := by kernel_rfl
  t23 := Tryf.underlying54
  a23 := Tryf.isAgg54
  z23 := Tryf.sizeOf54
  v23 := Tryf.zeroValue54
  i23 := by kernel_rfl }
open Go.RowKit Go.Lib in
theorem Tryf.strings_IndexFunc (g : Nat) (lb : Array Value) (eg : ∀ args w, (callFunc g args).run Tryf.prog w = .ok (.enter g args) w) (p : Nat → Bool) (s : ByteArray) (w : World) (hp : PredAt Tryf.prog g lb encR p w) :
    Calls Tryf.prog 26 #[.string s, .func (.func g) #[] lb] w fun e w' => e = .returned (.int .i64 (Lib.idxFunc p true s)) ∧ Below w.heap.size w w' := Any.strings_IndexFunc Tryf.laysGw15 g lb eg p s w hp
def Tryf.laysGw17_ren : Go.Shelf.Ren := ⟨fun | 17 => 21 | 15 => 26 | 20 => 34 | n => n, fun | 9 => 9 | 23 => 54 | 4 => 4 | 3 => 3 | 0 => 0 | 21 => 21 | n => n, fun | n => n⟩
theorem Tryf.laysGw17 : Go.Proofs.LaysGw.n17 Tryf.prog Tryf.laysGw17_ren := {
  mixed := by kernel_rfl
  f15 := Tryf.func26.trans (congrArg some (by kernel_rfl))
  f17 := Tryf.func21.trans (congrArg some (by kernel_rfl))
  f20 := Tryf.func34.trans (congrArg some (by kernel_rfl))
  t0 := Tryf.underlying0
  a0 := Tryf.isAgg0
  z0 := Tryf.sizeOf0
  v0 := Tryf.zeroValue0
  i0 := by kernel_rfl
  t3 := Tryf.underlying3
  a3 := Tryf.isAgg3
  z3 := Tryf.sizeOf3
  v3 := Tryf.zeroValue3
  i3 := by kernel_rfl
  t4 := Tryf.underlying4
  a4 := Tryf.isAgg4
  z4 := Tryf.sizeOf4
  v4 := Tryf.zeroValue4
  i4 := by kernel_rfl
  t9 := Tryf.underlying9
  a9 := Tryf.isAgg9
  z9 := Tryf.sizeOf9
  v9 := Tryf.zeroValue9
  i9 := by kernel_rfl
  t21 := Tryf.underlying21
  a21 := Tryf.isAgg21
  z21 := Tryf.sizeOf21
  v21 := Tryf.zeroValue21
  i21 := by kernel_rfl
  t23 := Tryf.underlying54
  a23 := Tryf.isAgg54
  z23 := Tryf.sizeOf54
  v23 := Tryf.zeroValue54
  i23 := by kernel_rfl }
open Go.RowKit Go.Lib in
theorem Tryf.strings_ContainsFunc (g : Nat) (lb : Array Value) (eg : ∀ args w, (callFunc g args).run Tryf.prog w = .ok (.enter g args) w) (p : Nat → Bool) (s : ByteArray) (w : World) (hp : PredAt Tryf.prog g lb encR p w) :
    Calls Tryf.prog 21 #[.string s, .func (.func g) #[] lb] w fun e w' => e = .returned (.bool (decide (0 ≤ Lib.idxFunc p true s))) ∧ Below w.heap.size w w' := Any.strings_ContainsFunc Tryf.laysGw17 g lb eg p s w hp
open Go.RowKit Go.Lib in
theorem Tryf.strings_indexFunc_runes (g : Nat) (lb : Array Value) (eg : ∀ args w, (callFunc g args).run Tryf.prog w = .ok (.enter g args) w) (p : Nat → Bool) (truth : Bool) (s : ByteArray) (w : World) (hp : PredAtRunes Tryf.prog g lb p w) :
    Calls Tryf.prog 34 #[.string s, .func (.func g) #[] lb, .bool truth] w fun e w' => e = .returned (.int .i64 (Lib.idxFunc p truth s)) ∧ Below w.heap.size w w' := Any.strings_indexFunc_runes Tryf.lays315 g lb eg p truth s w hp
open Go.RowKit Go.Lib in
theorem Tryf.strings_IndexFunc_runes (g : Nat) (lb : Array Value) (eg : ∀ args w, (callFunc g args).run Tryf.prog w = .ok (.enter g args) w) (p : Nat → Bool) (s : ByteArray) (w : World) (hp : PredAtRunes Tryf.prog g lb p w) :
    Calls Tryf.prog 26 #[.string s, .func (.func g) #[] lb] w fun e w' => e = .returned (.int .i64 (Lib.idxFunc p true s)) ∧ Below w.heap.size w w' := Any.strings_IndexFunc_runes Tryf.laysGw15 g lb eg p s w hp
open Go.RowKit Go.Lib in
theorem Tryf.strings_ContainsFunc_runes (g : Nat) (lb : Array Value) (eg : ∀ args w, (callFunc g args).run Tryf.prog w = .ok (.enter g args) w) (p : Nat → Bool) (s : ByteArray) (w : World) (hp : PredAtRunes Tryf.prog g lb p w) :
    Calls Tryf.prog 21 #[.string s, .func (.func g) #[] lb] w fun e w' => e = .returned (.bool (decide (0 ≤ Lib.idxFunc p true s))) ∧ Below w.heap.size w w' := Any.strings_ContainsFunc_runes Tryf.laysGw17 g lb eg p s w hp
open Go.RowKit Go.Lib in
theorem Tryf.strings_indexFunc_grows (g : Nat) (lb : Array Value) (eg : ∀ args w, (callFunc g args).run Tryf.prog w = .ok (.enter g args) w) (p : Nat → Bool) (truth : Bool) (s : ByteArray) (w : World) (hp : PredGrows Tryf.prog g lb p w) :
    Calls Tryf.prog 34 #[.string s, .func (.func g) #[] lb, .bool truth] w fun e w' => e = .returned (.int .i64 (Lib.idxFunc p truth s)) ∧ Below w.heap.size w w' := Any.strings_indexFunc_grows Tryf.lays315 g lb eg p truth s w hp
open Go.RowKit Go.Lib in
theorem Tryf.strings_IndexFunc_grows (g : Nat) (lb : Array Value) (eg : ∀ args w, (callFunc g args).run Tryf.prog w = .ok (.enter g args) w) (p : Nat → Bool) (s : ByteArray) (w : World) (hp : PredGrows Tryf.prog g lb p w) :
    Calls Tryf.prog 26 #[.string s, .func (.func g) #[] lb] w fun e w' => e = .returned (.int .i64 (Lib.idxFunc p true s)) ∧ Below w.heap.size w w' := Any.strings_IndexFunc_grows Tryf.laysGw15 g lb eg p s w hp
open Go.RowKit Go.Lib in
theorem Tryf.strings_ContainsFunc_grows (g : Nat) (lb : Array Value) (eg : ∀ args w, (callFunc g args).run Tryf.prog w = .ok (.enter g args) w) (p : Nat → Bool) (s : ByteArray) (w : World) (hp : PredGrows Tryf.prog g lb p w) :
    Calls Tryf.prog 21 #[.string s, .func (.func g) #[] lb] w fun e w' => e = .returned (.bool (decide (0 ≤ Lib.idxFunc p true s))) ∧ Below w.heap.size w w' := Any.strings_ContainsFunc_grows Tryf.laysGw17 g lb eg p s w hp
end Go.Proofs
