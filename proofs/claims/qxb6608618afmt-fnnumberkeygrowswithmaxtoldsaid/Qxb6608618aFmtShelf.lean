/-
  DERIVED: THE SHELF's CONTRACTS AT THIS DUMP, IN PLAIN WORDS (tools/lay-plain.mjs out of 'TryfShelf.lean', which tools/lay-shelf.mjs wrote): THE SAME DECLARATIONS UNDER THE SAME NAMES: 'import', 'namespace', 'open', 'def', 'theorem' AND NOTHING ELSE: no command of the shelf's: FOR A HAND-IN. Each laying: the table of numbers ('.._ren') and one theorem, a field a fact of the dump's own or the kernel's comparison; each contract: ONE APPLICATION.
-/
import Derived.Shelf.Strconv.Itoa0
import Derived.Shelf.Strconv.Itoa1
import Derived.Shelf.LaysM
import Derived.Shelf.Strconv.Itoa2
import Derived.Shelf.Strconv.Itoa3
import Derived.Ground.MpProg
import Derived.Shelf.Pu.ParseUintPublic10
import Derived.Shelf.Pu.ErrVarParseUint
import Derived.Shelf.Strings.Search1
import Derived.Shelf.Strings.Search2
import Derived.Shelf.Strings.Cut
import Derived.Shelf.Strings.Shaped
import Derived.Shelf.GgClosure.StringsIndexFunc
import Derived.Ground.GgwProg
import Derived.Shelf.GgClosure.StringsIndexFuncTop
import Derived.Shelf.GgClosure.StringsRunes
import Derived.Shelf.Strings.FuncGrows
import Derived.Test.Qxb6608618aFmtProg
namespace Go.Proofs
open Go.Shelf
def Tryf.laysPu14_ren : Go.Shelf.Ren := ⟨fun | 14 => 18 | 16 => 23 | 17 => 24 | 19 => 27 | 20 => 28 | 21 => 29 | 22 => 30 | 23 => 31 | 24 => 32 | 25 => 35 | 27 => 37 | 26 => 36 | 28 => 42 | 29 => 45 | 30 => 46 | 31 => 47 | 32 => 48 | 33 => 49 | 35 => 51 | 34 => 50 | 36 => 52 | 37 => 53 | 38 => 54 | 39 => 55 | 40 => 56 | n => n, fun | 9 => 9 | 3 => 3 | 22 => 23 | 24 => 47 | 25 => 48 | 4 => 4 | 34 => 57 | 5 => 5 | 36 => 59 | 37 => 37 | 0 => 0 | 39 => 60 | 21 => 21 | 44 => 67 | 47 => 72 | 50 => 75 | 48 => 73 | 2 => 2 | 52 => 79 | 55 => 82 | 59 => 85 | 60 => 22 | 20 => 20 | 61 => 86 | 65 => 90 | 66 => 91 | 67 => 94 | n => n, fun | 0 => 0 | 1 => 1 | 2 => 3 | 3 => 4 | 4 => 5 | n => n⟩
theorem Tryf.laysPu14 : Go.Proofs.LaysPu.n14 Tryf.prog Tryf.laysPu14_ren := {
  mixed := by kernel_rfl
  f14 := Tryf.func18.trans (congrArg some (by kernel_rfl))
  f16 := Tryf.func23.trans (congrArg some (by kernel_rfl))
  f17 := Tryf.func24.trans (congrArg some (by kernel_rfl))
  f19 := Tryf.func27.trans (congrArg some (by kernel_rfl))
  f20 := Tryf.func28.trans (congrArg some (by kernel_rfl))
  f21 := Tryf.func29.trans (congrArg some (by kernel_rfl))
  f22 := Tryf.func30.trans (congrArg some (by kernel_rfl))
  f23 := Tryf.func31.trans (congrArg some (by kernel_rfl))
  f24 := Tryf.func32.trans (congrArg some (by kernel_rfl))
  f25 := Tryf.func35.trans (congrArg some (by kernel_rfl))
  f26 := Tryf.func36.trans (congrArg some (by kernel_rfl))
  f27 := Tryf.func37.trans (congrArg some (by kernel_rfl))
  f28 := Tryf.func42.trans (congrArg some (by kernel_rfl))
  f29 := Tryf.func45.trans (congrArg some (by kernel_rfl))
  f30 := Tryf.func46.trans (congrArg some (by kernel_rfl))
  f31 := Tryf.func47.trans (congrArg some (by kernel_rfl))
  f32 := Tryf.func48.trans (congrArg some (by kernel_rfl))
  f33 := Tryf.func49.trans (congrArg some (by kernel_rfl))
  f34 := Tryf.func50.trans (congrArg some (by kernel_rfl))
  f35 := Tryf.func51.trans (congrArg some (by kernel_rfl))
  f36 := Tryf.func52.trans (congrArg some (by kernel_rfl))
  f37 := Tryf.func53.trans (congrArg some (by kernel_rfl))
  f38 := Tryf.func54.trans (congrArg some (by kernel_rfl))
  f39 := Tryf.func55.trans (congrArg some (by kernel_rfl))
  f40 := Tryf.func56.trans (congrArg some (by kernel_rfl))
  t0 := Tryf.underlying0
  a0 := Tryf.isAgg0
  z0 := Tryf.sizeOf0
  v0 := Tryf.zeroValue0
  i0 := by kernel_rfl
  t2 := Tryf.underlying2
  a2 := Tryf.isAgg2
  z2 := Tryf.sizeOf2
  v2 := Tryf.zeroValue2
  i2 := by kernel_rfl
  t3 := Tryf.underlying3
  a3 := Tryf.isAgg3
  z3 := Tryf.sizeOf3
  v3 := Tryf.zeroValue3
  i3 := by kernel_rfl
  t4 := Tryf.underlying4
  a4 := Tryf.isAgg4
  z4 := Tryf.sizeOf4
  v4 := Tryf.zeroValue4
  i4 := by kernel_rfl
  t5 := Tryf.underlying5
  a5 := Tryf.isAgg5
  z5 := Tryf.sizeOf5
  v5 := Tryf.zeroValue5
  i5 := by kernel_rfl
  t9 := Tryf.underlying9
  a9 := Tryf.isAgg9
  z9 := Tryf.sizeOf9
  v9 := Tryf.zeroValue9
  i9 := by kernel_rfl
  t20 := Tryf.underlying20
  a20 := Tryf.isAgg20
  z20 := Tryf.sizeOf20
  v20 := Tryf.zeroValue20
  i20 := by kernel_rfl
  t21 := Tryf.underlying21
  a21 := Tryf.isAgg21
  z21 := Tryf.sizeOf21
  v21 := Tryf.zeroValue21
  i21 := by kernel_rfl
  t22 := Tryf.underlying23
  a22 := Tryf.isAgg23
  z22 := Tryf.sizeOf23
  v22 := Tryf.zeroValue23
  i22 := by kernel_rfl
  t24 := Tryf.underlying47
  a24 := Tryf.isAgg47
  z24 := Tryf.sizeOf47
  v24 := Tryf.zeroValue47
  i24 := by kernel_rfl
  t25 := Tryf.underlying48
  a25 := Tryf.isAgg48
  z25 := Tryf.sizeOf48
  v25 := Tryf.zeroValue48
  i25 := by kernel_rfl
  t34 := Tryf.underlying57
  a34 := Tryf.isAgg57
  z34 := Tryf.sizeOf57
  v34 := Tryf.zeroValue57
  i34 := by kernel_rfl
  c34 := by kernel_rfl
  t36 := Tryf.underlying59
  a36 := Tryf.isAgg59
  z36 := Tryf.sizeOf59
  v36 := Tryf.zeroValue59
  i36 := by kernel_rfl
  t37 := Tryf.underlying37
  a37 := Tryf.isAgg37
  z37 := Tryf.sizeOf37
  v37 := Tryf.zeroValue37
  i37 := by kernel_rfl
  t39 := Tryf.underlying60
  a39 := Tryf.isAgg60
  z39 := Tryf.sizeOf60
  v39 := Tryf.zeroValue60
  i39 := by kernel_rfl
  t44 := Tryf.underlying67
  a44 := Tryf.isAgg67
  z44 := Tryf.sizeOf67
  v44 := Tryf.zeroValue67
  i44 := by kernel_rfl
  t47 := Tryf.underlying72
  a47 := Tryf.isAgg72
  z47 := Tryf.sizeOf72
  v47 := Tryf.zeroValue72
  i47 := by kernel_rfl
  t48 := Tryf.underlying73
  a48 := Tryf.isAgg73
  z48 := Tryf.sizeOf73
  v48 := Tryf.zeroValue73
  i48 := by kernel_rfl
  t50 := Tryf.underlying75
  a50 := Tryf.isAgg75
  z50 := Tryf.sizeOf75
  v50 := Tryf.zeroValue75
  i50 := by kernel_rfl
  t52 := Tryf.underlying79
  a52 := Tryf.isAgg79
  z52 := Tryf.sizeOf79
  v52 := Tryf.zeroValue79
  i52 := by kernel_rfl
  t55 := Tryf.underlying82
  a55 := Tryf.isAgg82
  z55 := Tryf.sizeOf82
  v55 := Tryf.zeroValue82
  i55 := by kernel_rfl
  t59 := Tryf.underlying85
  a59 := Tryf.isAgg85
  z59 := Tryf.sizeOf85
  v59 := Tryf.zeroValue85
  i59 := by kernel_rfl
  t60 := Tryf.underlying22
  a60 := Tryf.isAgg22
  z60 := Tryf.sizeOf22
  v60 := Tryf.zeroValue22
  i60 := by kernel_rfl
  t61 := Tryf.underlying86
  a61 := Tryf.isAgg86
  z61 := Tryf.sizeOf86
  t65 := Tryf.underlying90
  a65 := Tryf.isAgg90
  z65 := Tryf.sizeOf90
  v65 := Tryf.zeroValue90
  i65 := by kernel_rfl
  t66 := Tryf.underlying91
  a66 := Tryf.isAgg91
  z66 := Tryf.sizeOf91
  v66 := Tryf.zeroValue91
  i66 := by kernel_rfl
  t67 := Tryf.underlying94
  a67 := Tryf.isAgg94
  z67 := Tryf.sizeOf94
  v67 := Tryf.zeroValue94
  i67 := by kernel_rfl
  g0 := by kernel_rfl
  m0 := by kernel_rfl
  g1 := by kernel_rfl
  m1 := by kernel_rfl
  g2 := by kernel_rfl
  m2 := by kernel_rfl
  g3 := by kernel_rfl
  m3 := by kernel_rfl
  g4 := by kernel_rfl
  m4 := by kernel_rfl }
open Go.RowKit in
/-- strconv.ParseUint(s, 10, 64), AT EVERY STRING THAT SPELLS A uint64 ('Lib.parseUintB 64 s.data.toList = .ok u'): u, AND NO ERROR. (LAID: no walk: one application.) -/
theorem Tryf.strconv_ParseUint_10_at64_ok (s : ByteArray) (hmax : s.size ≤ 9223372036854775806) (u : Nat) (h : Lib.parseUintB 64 s.data.toList = .ok u) (w : World) :
    Calls Tryf.prog 18 #[.string s, .int .i64 10, .int .i64 64] w fun e w' => e = .returned (.tuple #[.int .u64 u, .nilIface]) ∧ (w' = w ∨ w' = Lib.bytesWorld w 5 s) := Any.strconv_ParseUint_10_at64_ok Tryf.laysPu14 s hmax u h w
def Tryf.lays217_ren : Go.Shelf.Ren := ⟨fun | 217 => 38 | 266 => 43 | n => n, fun | 9 => 9 | 5 => 5 | 3 => 3 | n => n, fun | n => n⟩
theorem Tryf.lays217 : Go.Proofs.Lays.n217 Tryf.prog Tryf.lays217_ren := {
  mixed := by kernel_rfl
  f217 := Tryf.func38.trans (congrArg some (by kernel_rfl))
  f266 := Tryf.func43.trans (congrArg some (by kernel_rfl))
  t3 := Tryf.underlying3
  a3 := Tryf.isAgg3
  z3 := Tryf.sizeOf3
  v3 := Tryf.zeroValue3
  t5 := Tryf.underlying5
  a5 := Tryf.isAgg5
  z5 := Tryf.sizeOf5
  v5 := Tryf.zeroValue5
  t9 := Tryf.underlying9
  a9 := Tryf.isAgg9
  z9 := Tryf.sizeOf9
  v9 := Tryf.zeroValue9 }
open Go.RowKit Go.Lib in
/-- internal/stringslite.IndexByte (what strings.IndexByte calls): IT RETURNS 'Lib.indexByte s c'; the world is as it was. (LAID: no walk: one application.) -/
theorem Tryf.stringslite_IndexByte (s : ByteArray) (c : Int) (w : World) :
    Calls Tryf.prog 38 #[.string s, .int .u8 c] w fun e w' => e = .returned (.int .i64 (Lib.indexByte s.data.toList c.toNat.toUInt8)) ∧ w' = w := Any.stringslite_IndexByte Tryf.lays217 s c w
def Tryf.lays224_ren : Go.Shelf.Ren := ⟨fun | 224 => 40 | n => n, fun | 3 => 3 | n => n, fun | n => n⟩
theorem Tryf.lays224 : Go.Proofs.Lays.n224 Tryf.prog Tryf.lays224_ren := {
  mixed := by kernel_rfl
  f224 := Tryf.func40.trans (congrArg some (by kernel_rfl))
  t3 := Tryf.underlying3
  a3 := Tryf.isAgg3
  z3 := Tryf.sizeOf3
  v3 := Tryf.zeroValue3 }
open Go.RowKit Go.Lib in
/-- internal/bytealg.Cutover: "Cutover reports the number of failures of IndexByte we should tolerate before switching over to Index. n is the number of bytes processed so far.": on amd64: (n + 16) / 8. (LAID: no walk: one application.) -/
theorem Tryf.bytealg_Cutover (n : Int) (h0 : 0 ≤ n) (h1 : n < 4611686018427387904) (w : World) :
    Calls Tryf.prog 40 #[.int .i64 n] w fun e w' => e = .returned (.int .i64 ((n + 16) / 8)) ∧ w' = w := Any.bytealg_Cutover Tryf.lays224 n h0 h1 w
def Tryf.lays314_ren : Go.Shelf.Ren := ⟨fun | 314 => 44 | n => n, fun | 9 => 9 | 51 => 22 | 3 => 3 | 4 => 4 | 5 => 5 | 46 => 59 | n => n, fun | n => n⟩
theorem Tryf.lays314 : Go.Proofs.Lays.n314 Tryf.prog Tryf.lays314_ren := {
  mixed := by kernel_rfl
  f314 := Tryf.func44.trans (congrArg some (by kernel_rfl))
  t3 := Tryf.underlying3
  a3 := Tryf.isAgg3
  z3 := Tryf.sizeOf3
  v3 := Tryf.zeroValue3
  t4 := Tryf.underlying4
  a4 := Tryf.isAgg4
  z4 := Tryf.sizeOf4
  v4 := Tryf.zeroValue4
  t5 := Tryf.underlying5
  a5 := Tryf.isAgg5
  z5 := Tryf.sizeOf5
  v5 := Tryf.zeroValue5
  t9 := Tryf.underlying9
  a9 := Tryf.isAgg9
  z9 := Tryf.sizeOf9
  v9 := Tryf.zeroValue9
  t46 := Tryf.underlying59
  a46 := Tryf.isAgg59
  z46 := Tryf.sizeOf59
  v46 := Tryf.zeroValue59
  t51 := Tryf.underlying22
  a51 := Tryf.isAgg22
  z51 := Tryf.sizeOf22
  v51 := Tryf.zeroValue22 }
open Go.RowKit Go.Lib in
/-- hashStr: "returns the hash and the appropriate multiplicative factor for use in Rabin-Karp algorithm": THE HASH OF ALL OF sep, AND 16777619 ^ len(sep), both in uint32. (LAID: no walk: one application.) -/
theorem Tryf.bytealg_hashStr (sep : ByteArray) (hs : sep.size < 4294967281) (w : World) :
    Calls Tryf.prog 44 #[.string sep] w fun e w' => e = .returned (.tuple #[.int .u32 (RK.H sep.data.toList % 4294967296), .int .u32 (16777619 ^ sep.size % 4294967296)]) ∧ w' = w := Any.bytealg_hashStr Tryf.lays314 sep hs w
def Tryf.lays267_ren : Go.Shelf.Ren := ⟨fun | 267 => 41 | 314 => 44 | n => n, fun | 9 => 9 | 3 => 3 | 146 => 76 | 51 => 22 | 4 => 4 | 5 => 5 | 46 => 59 | n => n, fun | n => n⟩
theorem Tryf.lays267 : Go.Proofs.Lays.n267 Tryf.prog Tryf.lays267_ren := {
  mixed := by kernel_rfl
  f267 := Tryf.func41.trans (congrArg some (by kernel_rfl))
  f314 := Tryf.func44.trans (congrArg some (by kernel_rfl))
  t3 := Tryf.underlying3
  a3 := Tryf.isAgg3
  z3 := Tryf.sizeOf3
  v3 := Tryf.zeroValue3
  t4 := Tryf.underlying4
  a4 := Tryf.isAgg4
  z4 := Tryf.sizeOf4
  v4 := Tryf.zeroValue4
  t5 := Tryf.underlying5
  a5 := Tryf.isAgg5
  z5 := Tryf.sizeOf5
  v5 := Tryf.zeroValue5
  t9 := Tryf.underlying9
  a9 := Tryf.isAgg9
  z9 := Tryf.sizeOf9
  v9 := Tryf.zeroValue9
  t46 := Tryf.underlying59
  a46 := Tryf.isAgg59
  z46 := Tryf.sizeOf59
  v46 := Tryf.zeroValue59
  t51 := Tryf.underlying22
  a51 := Tryf.isAgg22
  z51 := Tryf.sizeOf22
  v51 := Tryf.zeroValue22
  t146 := Tryf.underlying76
  a146 := Tryf.isAgg76
  z146 := Tryf.sizeOf76
  v146 := Tryf.zeroValue76 }
open Go.RowKit Go.Lib in
theorem Tryf.bytealg_IndexRabinKarp (s sep : ByteArray) (h1 : 1 ≤ sep.size) (h2 : sep.size ≤ s.size) (hs : s.size < 4294967281) (w : World) :
    Calls Tryf.prog 41 #[.string s, .string sep] w fun e w' => e = .returned (.int .i64 (Lib.index s.data.toList sep.data.toList)) ∧ w' = w := Any.bytealg_IndexRabinKarp Tryf.lays267 s sep h1 h2 hs w
def Tryf.lays219_ren : Go.Shelf.Ren := ⟨fun | 219 => 33 | 217 => 38 | 225 => 39 | 224 => 40 | 267 => 41 | 266 => 43 | 314 => 44 | n => n, fun | 9 => 9 | 3 => 3 | 4 => 4 | 5 => 5 | 46 => 59 | 146 => 76 | 51 => 22 | n => n, fun | 1 => 2 | n => n⟩
theorem Tryf.lays219 : Go.Proofs.Lays.n219 Tryf.prog Tryf.lays219_ren := {
  mixed := by kernel_rfl
  f217 := Tryf.func38.trans (congrArg some (by kernel_rfl))
  f219 := Tryf.func33.trans (congrArg some (by kernel_rfl))
  f224 := Tryf.func40.trans (congrArg some (by kernel_rfl))
  f225 := Tryf.func39.trans (congrArg some (by kernel_rfl))
  f266 := Tryf.func43.trans (congrArg some (by kernel_rfl))
  f267 := Tryf.func41.trans (congrArg some (by kernel_rfl))
  f314 := Tryf.func44.trans (congrArg some (by kernel_rfl))
  t3 := Tryf.underlying3
  a3 := Tryf.isAgg3
  z3 := Tryf.sizeOf3
  v3 := Tryf.zeroValue3
  t4 := Tryf.underlying4
  a4 := Tryf.isAgg4
  z4 := Tryf.sizeOf4
  v4 := Tryf.zeroValue4
  t5 := Tryf.underlying5
  a5 := Tryf.isAgg5
  z5 := Tryf.sizeOf5
  v5 := Tryf.zeroValue5
  t9 := Tryf.underlying9
  a9 := Tryf.isAgg9
  z9 := Tryf.sizeOf9
  v9 := Tryf.zeroValue9
  t46 := Tryf.underlying59
  a46 := Tryf.isAgg59
  z46 := Tryf.sizeOf59
  v46 := Tryf.zeroValue59
  t51 := Tryf.underlying22
  a51 := Tryf.isAgg22
  z51 := Tryf.sizeOf22
  v51 := Tryf.zeroValue22
  t146 := Tryf.underlying76
  a146 := Tryf.isAgg76
  z146 := Tryf.sizeOf76
  v146 := Tryf.zeroValue76
  g1 := by kernel_rfl }
open Go.RowKit Go.Lib in
/-- internal/stringslite.Index (what strings.Index calls) AT A substr OF ONE BYTE c: IT RETURNS 'Lib.indexByte s c'; the world is as it was. (LAID: no walk: one application.) -/
theorem Tryf.stringslite_Index_one (s : ByteArray) (c : UInt8) (w : World) :
    Calls Tryf.prog 33 #[.string s, .string ⟨#[c]⟩] w fun e w' => e = .returned (.int .i64 (Lib.indexByte s.data.toList c)) ∧ w' = w := Any.stringslite_Index_one Tryf.lays219 s c w
open Go.RowKit Go.Lib in
/-- internal/stringslite.Index (what strings.Index calls) AT A substr OF WHATEVER LENGTH: IT RETURNS 'Lib.index s substr'; the world is as it was. 'm': what internal/bytealg.MaxLen holds: whatever. (LAID: no walk: one application.) -/
theorem Tryf.stringslite_Index (s sub : ByteArray) (m : Int) (w : World) (hs : s.size < 4294967281) (hm : w.cell? ⟨2, 0, none⟩ = some (.int .i64 m)) :
    Calls Tryf.prog 33 #[.string s, .string sub] w fun e w' => e = .returned (.int .i64 (Lib.index s.data.toList sub.data.toList)) ∧ w' = w := Any.stringslite_Index Tryf.lays219 s sub m w hs hm
def Tryf.lays220_ren : Go.Shelf.Ren := ⟨fun | 220 => 25 | 219 => 33 | 217 => 38 | 225 => 39 | 224 => 40 | 267 => 41 | 266 => 43 | 314 => 44 | n => n, fun | 9 => 9 | 4 => 4 | 3 => 3 | 5 => 5 | 46 => 59 | 146 => 76 | 51 => 22 | n => n, fun | 1 => 2 | n => n⟩
theorem Tryf.lays220 : Go.Proofs.Lays.n220 Tryf.prog Tryf.lays220_ren := {
  mixed := by kernel_rfl
  f217 := Tryf.func38.trans (congrArg some (by kernel_rfl))
  f219 := Tryf.func33.trans (congrArg some (by kernel_rfl))
  f220 := Tryf.func25.trans (congrArg some (by kernel_rfl))
  f224 := Tryf.func40.trans (congrArg some (by kernel_rfl))
  f225 := Tryf.func39.trans (congrArg some (by kernel_rfl))
  f266 := Tryf.func43.trans (congrArg some (by kernel_rfl))
  f267 := Tryf.func41.trans (congrArg some (by kernel_rfl))
  f314 := Tryf.func44.trans (congrArg some (by kernel_rfl))
  t3 := Tryf.underlying3
  a3 := Tryf.isAgg3
  z3 := Tryf.sizeOf3
  v3 := Tryf.zeroValue3
  t4 := Tryf.underlying4
  a4 := Tryf.isAgg4
  z4 := Tryf.sizeOf4
  v4 := Tryf.zeroValue4
  t5 := Tryf.underlying5
  a5 := Tryf.isAgg5
  z5 := Tryf.sizeOf5
  v5 := Tryf.zeroValue5
  t9 := Tryf.underlying9
  a9 := Tryf.isAgg9
  z9 := Tryf.sizeOf9
  v9 := Tryf.zeroValue9
  t46 := Tryf.underlying59
  a46 := Tryf.isAgg59
  z46 := Tryf.sizeOf59
  v46 := Tryf.zeroValue59
  t51 := Tryf.underlying22
  a51 := Tryf.isAgg22
  z51 := Tryf.sizeOf22
  v51 := Tryf.zeroValue22
  t146 := Tryf.underlying76
  a146 := Tryf.isAgg76
  z146 := Tryf.sizeOf76
  v146 := Tryf.zeroValue76
  g1 := by kernel_rfl }
open Go.RowKit Go.Lib in
/-- internal/stringslite.Cut (what strings.Cut calls): IT RETURNS 'Lib.cut s sep'; the world is as it was but for the count of draws. (LAID: no walk: one application.) -/
theorem Tryf.stringslite_Cut (s sep : ByteArray) (m : Int) (w : World) (hs : s.size < 4294967281) (hm : w.cell? ⟨2, 0, none⟩ = some (.int .i64 m)) :
    Calls Tryf.prog 25 #[.string s, .string sep] w fun e w' => e = .returned (.tuple #[.string ⟨(Lib.cut s.data.toList sep.data.toList).1.toArray⟩, .string ⟨(Lib.cut s.data.toList sep.data.toList).2.1.toArray⟩, .bool (Lib.cut s.data.toList sep.data.toList).2.2]) ∧ ∃ n, w' = w.drewN n := Any.stringslite_Cut Tryf.lays220 s sep m w hs hm
def Tryf.lays145_ren : Go.Shelf.Ren := ⟨fun | 145 => 19 | 220 => 25 | 219 => 33 | 217 => 38 | 225 => 39 | 224 => 40 | 267 => 41 | 266 => 43 | 314 => 44 | n => n, fun | 9 => 9 | 4 => 4 | 59 => 50 | 3 => 3 | 5 => 5 | 46 => 59 | 146 => 76 | 51 => 22 | n => n, fun | 1 => 2 | n => n⟩
theorem Tryf.lays145 : Go.Proofs.Lays.n145 Tryf.prog Tryf.lays145_ren := {
  mixed := by kernel_rfl
  f145 := Tryf.func19.trans (congrArg some (by kernel_rfl))
  f217 := Tryf.func38.trans (congrArg some (by kernel_rfl))
  f219 := Tryf.func33.trans (congrArg some (by kernel_rfl))
  f220 := Tryf.func25.trans (congrArg some (by kernel_rfl))
  f224 := Tryf.func40.trans (congrArg some (by kernel_rfl))
  f225 := Tryf.func39.trans (congrArg some (by kernel_rfl))
  f266 := Tryf.func43.trans (congrArg some (by kernel_rfl))
  f267 := Tryf.func41.trans (congrArg some (by kernel_rfl))
  f314 := Tryf.func44.trans (congrArg some (by kernel_rfl))
  t3 := Tryf.underlying3
  a3 := Tryf.isAgg3
  z3 := Tryf.sizeOf3
  v3 := Tryf.zeroValue3
  t4 := Tryf.underlying4
  a4 := Tryf.isAgg4
  z4 := Tryf.sizeOf4
  v4 := Tryf.zeroValue4
  t5 := Tryf.underlying5
  a5 := Tryf.isAgg5
  z5 := Tryf.sizeOf5
  v5 := Tryf.zeroValue5
  t9 := Tryf.underlying9
  a9 := Tryf.isAgg9
  z9 := Tryf.sizeOf9
  v9 := Tryf.zeroValue9
  t46 := Tryf.underlying59
  a46 := Tryf.isAgg59
  z46 := Tryf.sizeOf59
  v46 := Tryf.zeroValue59
  t51 := Tryf.underlying22
  a51 := Tryf.isAgg22
  z51 := Tryf.sizeOf22
  v51 := Tryf.zeroValue22
  t59 := Tryf.underlying50
  a59 := Tryf.isAgg50
  z59 := Tryf.sizeOf50
  v59 := Tryf.zeroValue50
  t146 := Tryf.underlying76
  a146 := Tryf.isAgg76
  z146 := Tryf.sizeOf76
  v146 := Tryf.zeroValue76
  g1 := by kernel_rfl }
open Go.RowKit Go.Lib in
/-- strings.Cut: "Cut slices s around the first instance of sep, returning the text before and after sep. The found result reports whether sep appears in s. If sep does not appear in s, cut returns s, "", false.": IT RETURNS 'Lib.cut s sep'; the world is as it was but for the count of draws. (LAID: no walk: one application.) -/
theorem Tryf.strings_Cut (s sep : ByteArray) (m : Int) (w : World) (hs : s.size < 4294967281) (hm : w.cell? ⟨2, 0, none⟩ = some (.int .i64 m)) :
    Calls Tryf.prog 19 #[.string s, .string sep] w fun e w' => e = .returned (.tuple #[.string ⟨(Lib.cut s.data.toList sep.data.toList).1.toArray⟩, .string ⟨(Lib.cut s.data.toList sep.data.toList).2.1.toArray⟩, .bool (Lib.cut s.data.toList sep.data.toList).2.2]) ∧ ∃ n, w' = w.drewN n := Any.strings_Cut Tryf.lays145 s sep m w hs hm
def Tryf.laysM219_ren : Go.Shelf.Ren := ⟨fun | 219 => 33 | 217 => 38 | 225 => 39 | 224 => 40 | 267 => 41 | 266 => 43 | 314 => 44 | n => n, fun | 9 => 9 | 3 => 3 | 4 => 4 | 5 => 5 | 46 => 59 | 146 => 76 | 51 => 22 | n => n, fun | 1 => 2 | n => n⟩
theorem Tryf.laysM219 : Go.Proofs.LaysM.n219 Tryf.prog Tryf.laysM219_ren := {
  mixed := by kernel_rfl
  f217 := Tryf.func38.trans (congrArg some (by kernel_rfl))
  f219 := Tryf.func33.trans (congrArg some (by kernel_rfl))
  f224 := Tryf.func40.trans (congrArg some (by kernel_rfl))
  f225 := Tryf.func39.trans (congrArg some (by kernel_rfl))
  f266 := Tryf.func43.trans (congrArg some (by kernel_rfl))
  f267 := Tryf.func41.trans (congrArg some (by kernel_rfl))
  f314 := Tryf.func44.trans (congrArg some (by kernel_rfl))
  t3 := Tryf.underlying3
  a3 := Tryf.isAgg3
  z3 := Tryf.sizeOf3
  v3 := Tryf.zeroValue3
  t4 := Tryf.underlying4
  a4 := Tryf.isAgg4
  z4 := Tryf.sizeOf4
  v4 := Tryf.zeroValue4
  t5 := Tryf.underlying5
  a5 := Tryf.isAgg5
  z5 := Tryf.sizeOf5
  v5 := Tryf.zeroValue5
  t9 := Tryf.underlying9
  a9 := Tryf.isAgg9
  z9 := Tryf.sizeOf9
  v9 := Tryf.zeroValue9
  t46 := Tryf.underlying59
  a46 := Tryf.isAgg59
  z46 := Tryf.sizeOf59
  v46 := Tryf.zeroValue59
  t51 := Tryf.underlying22
  a51 := Tryf.isAgg22
  z51 := Tryf.sizeOf22
  v51 := Tryf.zeroValue22
  t146 := Tryf.underlying76
  a146 := Tryf.isAgg76
  z146 := Tryf.sizeOf76
  v146 := Tryf.zeroValue76
  g1 := by kernel_rfl
  i3 := by kernel_rfl
  i4 := by kernel_rfl
  i5 := by kernel_rfl
  i9 := by kernel_rfl
  i46 := by kernel_rfl
  i51 := by kernel_rfl
  i146 := by kernel_rfl
  m1 := by kernel_rfl
  s1_3 := fun w h => Go.Proofs.cell_of_shapedOpen_int (zero := #[.int .i64 0]) (t := 3) h (of_decide_eq_true (by kernel_rfl)) (by kernel_rfl) rfl (by kernel_rfl) (by kernel_rfl) Tryf.underlying3 }
open Go.RowKit Go.Lib in
theorem Tryf.stringslite_Index_shaped (s sub : ByteArray) (w : World) (h : w.ShapedOpen Tryf.prog) (hs : s.size < 4294967281) :
    Calls Tryf.prog 33 #[.string s, .string sub] w fun e w' => e = .returned (.int .i64 (Lib.index s.data.toList sub.data.toList)) ∧ w' = w := Any.stringslite_Index_shaped Tryf.laysM219 s sub w h hs
def Tryf.laysM220_ren : Go.Shelf.Ren := ⟨fun | 220 => 25 | 219 => 33 | 217 => 38 | 225 => 39 | 224 => 40 | 267 => 41 | 266 => 43 | 314 => 44 | n => n, fun | 9 => 9 | 4 => 4 | 3 => 3 | 5 => 5 | 46 => 59 | 146 => 76 | 51 => 22 | n => n, fun | 1 => 2 | n => n⟩
theorem Tryf.laysM220 : Go.Proofs.LaysM.n220 Tryf.prog Tryf.laysM220_ren := {
  mixed := by kernel_rfl
  f217 := Tryf.func38.trans (congrArg some (by kernel_rfl))
  f219 := Tryf.func33.trans (congrArg some (by kernel_rfl))
  f220 := Tryf.func25.trans (congrArg some (by kernel_rfl))
  f224 := Tryf.func40.trans (congrArg some (by kernel_rfl))
  f225 := Tryf.func39.trans (congrArg some (by kernel_rfl))
  f266 := Tryf.func43.trans (congrArg some (by kernel_rfl))
  f267 := Tryf.func41.trans (congrArg some (by kernel_rfl))
  f314 := Tryf.func44.trans (congrArg some (by kernel_rfl))
  t3 := Tryf.underlying3
  a3 := Tryf.isAgg3
  z3 := Tryf.sizeOf3
  v3 := Tryf.zeroValue3
  t4 := Tryf.underlying4
  a4 := Tryf.isAgg4
  z4 := Tryf.sizeOf4
  v4 := Tryf.zeroValue4
  t5 := Tryf.underlying5
  a5 := Tryf.isAgg5
  z5 := Tryf.sizeOf5
  v5 := Tryf.zeroValue5
  t9 := Tryf.underlying9
  a9 := Tryf.isAgg9
  z9 := Tryf.sizeOf9
  v9 := Tryf.zeroValue9
  t46 := Tryf.underlying59
  a46 := Tryf.isAgg59
  z46 := Tryf.sizeOf59
  v46 := Tryf.zeroValue59
  t51 := Tryf.underlying22
  a51 := Tryf.isAgg22
  z51 := Tryf.sizeOf22
  v51 := Tryf.zeroValue22
  t146 := Tryf.underlying76
  a146 := Tryf.isAgg76
  z146 := Tryf.sizeOf76
  v146 := Tryf.zeroValue76
  g1 := by kernel_rfl
  i3 := by kernel_rfl
  i4 := by kernel_rfl
  i5 := by kernel_rfl
  i9 := by kernel_rfl
  i46 := by kernel_rfl
  i51 := by kernel_rfl
  i146 := by kernel_rfl
  m1 := by kernel_rfl
  s1_3 := fun w h => Go.Proofs.cell_of_shapedOpen_int (zero := #[.int .i64 0]) (t := 3) h (of_decide_eq_true (by kernel_rfl)) (by kernel_rfl) rfl (by kernel_rfl) (by kernel_rfl) Tryf.underlying3 }
open Go.RowKit Go.Lib in
theorem Tryf.stringslite_Cut_shaped (s sep : ByteArray) (w : World) (h : w.ShapedOpen Tryf.prog) (hs : s.size < 4294967281) :
    Calls Tryf.prog 25 #[.string s, .string sep] w fun e w' => e = .returned (.tuple #[.string ⟨(Lib.cut s.data.toList sep.data.toList).1.toArray⟩, .string ⟨(Lib.cut s.data.toList sep.data.toList).2.1.toArray⟩, .bool (Lib.cut s.data.toList sep.data.toList).2.2]) ∧ ∃ n, w' = w.drewN n := Any.stringslite_Cut_shaped Tryf.laysM220 s sep w h hs
def Tryf.laysM145_ren : Go.Shelf.Ren := ⟨fun | 145 => 19 | 220 => 25 | 219 => 33 | 217 => 38 | 225 => 39 | 224 => 40 | 267 => 41 | 266 => 43 | 314 => 44 | n => n, fun | 9 => 9 | 4 => 4 | 59 => 50 | 3 => 3 | 5 => 5 | 46 => 59 | 146 => 76 | 51 => 22 | n => n, fun | 1 => 2 | n => n⟩
theorem Tryf.laysM145 : Go.Proofs.LaysM.n145 Tryf.prog Tryf.laysM145_ren := {
  mixed := by kernel_rfl
  f145 := Tryf.func19.trans (congrArg some (by kernel_rfl))
  f217 := Tryf.func38.trans (congrArg some (by kernel_rfl))
  f219 := Tryf.func33.trans (congrArg some (by kernel_rfl))
  f220 := Tryf.func25.trans (congrArg some (by kernel_rfl))
  f224 := Tryf.func40.trans (congrArg some (by kernel_rfl))
  f225 := Tryf.func39.trans (congrArg some (by kernel_rfl))
  f266 := Tryf.func43.trans (congrArg some (by kernel_rfl))
  f267 := Tryf.func41.trans (congrArg some (by kernel_rfl))
  f314 := Tryf.func44.trans (congrArg some (by kernel_rfl))
  t3 := Tryf.underlying3
  a3 := Tryf.isAgg3
  z3 := Tryf.sizeOf3
  v3 := Tryf.zeroValue3
  t4 := Tryf.underlying4
  a4 := Tryf.isAgg4
  z4 := Tryf.sizeOf4
  v4 := Tryf.zeroValue4
  t5 := Tryf.underlying5
  a5 := Tryf.isAgg5
  z5 := Tryf.sizeOf5
  v5 := Tryf.zeroValue5
  t9 := Tryf.underlying9
  a9 := Tryf.isAgg9
  z9 := Tryf.sizeOf9
  v9 := Tryf.zeroValue9
  t46 := Tryf.underlying59
  a46 := Tryf.isAgg59
  z46 := Tryf.sizeOf59
  v46 := Tryf.zeroValue59
  t51 := Tryf.underlying22
  a51 := Tryf.isAgg22
  z51 := Tryf.sizeOf22
  v51 := Tryf.zeroValue22
  t59 := Tryf.underlying50
  a59 := Tryf.isAgg50
  z59 := Tryf.sizeOf50
  v59 := Tryf.zeroValue50
  t146 := Tryf.underlying76
  a146 := Tryf.isAgg76
  z146 := Tryf.sizeOf76
  v146 := Tryf.zeroValue76
  g1 := by kernel_rfl
  i3 := by kernel_rfl
  i4 := by kernel_rfl
  i5 := by kernel_rfl
  i9 := by kernel_rfl
  i46 := by kernel_rfl
  i51 := by kernel_rfl
  i59 := by kernel_rfl
  i146 := by kernel_rfl
  m1 := by kernel_rfl
  s1_3 := fun w h => Go.Proofs.cell_of_shapedOpen_int (zero := #[.int .i64 0]) (t := 3) h (of_decide_eq_true (by kernel_rfl)) (by kernel_rfl) rfl (by kernel_rfl) (by kernel_rfl) Tryf.underlying3 }
open Go.RowKit Go.Lib in
theorem Tryf.strings_Cut_shaped (s sep : ByteArray) (w : World) (h : w.ShapedOpen Tryf.prog) (hs : s.size < 4294967281) :
    Calls Tryf.prog 19 #[.string s, .string sep] w fun e w' => e = .returned (.tuple #[.string ⟨(Lib.cut s.data.toList sep.data.toList).1.toArray⟩, .string ⟨(Lib.cut s.data.toList sep.data.toList).2.1.toArray⟩, .bool (Lib.cut s.data.toList sep.data.toList).2.2]) ∧ ∃ n, w' = w.drewN n := Any.strings_Cut_shaped Tryf.laysM145 s sep w h hs
def Tryf.lays315_ren : Go.Shelf.Ren := ⟨fun | 315 => 34 | n => n, fun | 9 => 9 | 40 => 54 | 4 => 4 | 3 => 3 | 0 => 0 | 21 => 21 | n => n, fun | n => n⟩
theorem Tryf.lays315 : Go.Proofs.Lays.n315 Tryf.prog Tryf.lays315_ren := {
  mixed := by kernel_rfl
  f315 := Tryf.func34.trans (congrArg some (by kernel_rfl))
  t0 := Tryf.underlying0
  a0 := Tryf.isAgg0
  z0 := Tryf.sizeOf0
  v0 := Tryf.zeroValue0
  t3 := Tryf.underlying3
  a3 := Tryf.isAgg3
  z3 := Tryf.sizeOf3
  v3 := Tryf.zeroValue3
  t4 := Tryf.underlying4
  a4 := Tryf.isAgg4
  z4 := Tryf.sizeOf4
  v4 := Tryf.zeroValue4
  t9 := Tryf.underlying9
  a9 := Tryf.isAgg9
  z9 := Tryf.sizeOf9
  v9 := Tryf.zeroValue9
  t21 := Tryf.underlying21
  a21 := Tryf.isAgg21
  z21 := Tryf.sizeOf21
  v21 := Tryf.zeroValue21
  t40 := Tryf.underlying54
  a40 := Tryf.isAgg54
  z40 := Tryf.sizeOf54
  v40 := Tryf.zeroValue54 }
open Go.RowKit Go.Lib in
theorem Tryf.strings_indexFunc (g : Nat) (lb : Array Value) (eg : ∀ args w, (callFunc g args).run Tryf.prog w = .ok (.enter g args) w) (p : Nat → Bool) (truth : Bool) (s : ByteArray) (w : World) (hp : PredAt Tryf.prog g lb encR p w) :
    Calls Tryf.prog 34 #[.string s, .func (.func g) #[] lb, .bool truth] w fun e w' => e = .returned (.int .i64 (Lib.idxFunc p truth s)) ∧ Below w.heap.size w w' := Any.strings_indexFunc Tryf.lays315 g lb eg p truth s w hp
def Tryf.laysGw15_ren : Go.Shelf.Ren := ⟨fun | 15 => 26 | 20 => 34 | n => n, fun | 9 => 9 | 23 => 54 | 3 => 3 | 4 => 4 | 0 => 0 | 21 => 21 | n => n, fun | n => n⟩
theorem Tryf.laysGw15 : Go.Proofs.LaysGw.n15 Tryf.prog Tryf.laysGw15_ren := {
  mixed := by kernel_rfl
  f15 := Tryf.func26.trans (congrArg some (by kernel_rfl))
  f20 := Tryf.func34.trans (congrArg some (by kernel_rfl))
  t0 := Tryf.underlying0
  a0 := Tryf.isAgg0
  z0 := Tryf.sizeOf0
  v0 := Tryf.zeroValue0
  i0 := by kernel_rfl
  t3 := Tryf.underlying3
  a3 := Tryf.isAgg3
  z3 := Tryf.sizeOf3
  v3 := Tryf.zeroValue3
  i3 := by kernel_rfl
  t4 := Tryf.underlying4
  a4 := Tryf.isAgg4
  z4 := Tryf.sizeOf4
  v4 := Tryf.zeroValue4
  i4 := by kernel_rfl
  t9 := Tryf.underlying9
  a9 := Tryf.isAgg9
  z9 := Tryf.sizeOf9
  v9 := Tryf.zeroValue9
  i9 := by kernel_rfl
  t21 := Tryf.underlying21
  a21 := Tryf.isAgg21
  z21 := Tryf.sizeOf21
  v21 := Tryf.zeroValue21
  i21 := by kernel_rfl
  t23 := Tryf.underlying54
  a23 := Tryf.isAgg54
  z23 := Tryf.sizeOf54
  v23 := Tryf.zeroValue54
  i23 := by kernel_rfl }
open Go.RowKit Go.Lib in
theorem Tryf.strings_IndexFunc (g : Nat) (lb : Array Value) (eg : ∀ args w, (callFunc g args).run Tryf.prog w = .ok (.enter g args) w) (p : Nat → Bool) (s : ByteArray) (w : World) (hp : PredAt Tryf.prog g lb encR p w) :
    Calls Tryf.prog 26 #[.string s, .func (.func g) #[] lb] w fun e w' => e = .returned (.int .i64 (Lib.idxFunc p true s)) ∧ Below w.heap.size w w' := Any.strings_IndexFunc Tryf.laysGw15 g lb eg p s w hp
def Tryf.laysGw17_ren : Go.Shelf.Ren := ⟨fun | 17 => 21 | 15 => 26 | 20 => 34 | n => n, fun | 9 => 9 | 23 => 54 | 4 => 4 | 3 => 3 | 0 => 0 | 21 => 21 | n => n, fun | n => n⟩
theorem Tryf.laysGw17 : Go.Proofs.LaysGw.n17 Tryf.prog Tryf.laysGw17_ren := {
  mixed := by kernel_rfl
  f15 := Tryf.func26.trans (congrArg some (by kernel_rfl))
  f17 := Tryf.func21.trans (congrArg some (by kernel_rfl))
  f20 := Tryf.func34.trans (congrArg some (by kernel_rfl))
  t0 := Tryf.underlying0
  a0 := Tryf.isAgg0
  z0 := Tryf.sizeOf0
  v0 := Tryf.zeroValue0
  i0 := by kernel_rfl
  t3 := Tryf.underlying3
  a3 := Tryf.isAgg3
  z3 := Tryf.sizeOf3
  v3 := Tryf.zeroValue3
  i3 := by kernel_rfl
  t4 := Tryf.underlying4
  a4 := Tryf.isAgg4
  z4 := Tryf.sizeOf4
  v4 := Tryf.zeroValue4
  i4 := by kernel_rfl
  t9 := Tryf.underlying9
  a9 := Tryf.isAgg9
  z9 := Tryf.sizeOf9
  v9 := Tryf.zeroValue9
  i9 := by kernel_rfl
  t21 := Tryf.underlying21
  a21 := Tryf.isAgg21
  z21 := Tryf.sizeOf21
  v21 := Tryf.zeroValue21
  i21 := by kernel_rfl
  t23 := Tryf.underlying54
  a23 := Tryf.isAgg54
  z23 := Tryf.sizeOf54
  v23 := Tryf.zeroValue54
  i23 := by kernel_rfl }
open Go.RowKit Go.Lib in
theorem Tryf.strings_ContainsFunc (g : Nat) (lb : Array Value) (eg : ∀ args w, (callFunc g args).run Tryf.prog w = .ok (.enter g args) w) (p : Nat → Bool) (s : ByteArray) (w : World) (hp : PredAt Tryf.prog g lb encR p w) :
    Calls Tryf.prog 21 #[.string s, .func (.func g) #[] lb] w fun e w' => e = .returned (.bool (decide (0 ≤ Lib.idxFunc p true s))) ∧ Below w.heap.size w w' := Any.strings_ContainsFunc Tryf.laysGw17 g lb eg p s w hp
open Go.RowKit Go.Lib in
theorem Tryf.strings_indexFunc_runes (g : Nat) (lb : Array Value) (eg : ∀ args w, (callFunc g args).run Tryf.prog w = .ok (.enter g args) w) (p : Nat → Bool) (truth : Bool) (s : ByteArray) (w : World) (hp : PredAtRunes Tryf.prog g lb p w) :
    Calls Tryf.prog 34 #[.string s, .func (.func g) #[] lb, .bool truth] w fun e w' => e = .returned (.int .i64 (Lib.idxFunc p truth s)) ∧ Below w.heap.size w w' := Any.strings_indexFunc_runes Tryf.lays315 g lb eg p truth s w hp
open Go.RowKit Go.Lib in
theorem Tryf.strings_IndexFunc_runes (g : Nat) (lb : Array Value) (eg : ∀ args w, (callFunc g args).run Tryf.prog w = .ok (.enter g args) w) (p : Nat → Bool) (s : ByteArray) (w : World) (hp : PredAtRunes Tryf.prog g lb p w) :
    Calls Tryf.prog 26 #[.string s, .func (.func g) #[] lb] w fun e w' => e = .returned (.int .i64 (Lib.idxFunc p true s)) ∧ Below w.heap.size w w' := Any.strings_IndexFunc_runes Tryf.laysGw15 g lb eg p s w hp
open Go.RowKit Go.Lib in
theorem Tryf.strings_ContainsFunc_runes (g : Nat) (lb : Array Value) (eg : ∀ args w, (callFunc g args).run Tryf.prog w = .ok (.enter g args) w) (p : Nat → Bool) (s : ByteArray) (w : World) (hp : PredAtRunes Tryf.prog g lb p w) :
    Calls Tryf.prog 21 #[.string s, .func (.func g) #[] lb] w fun e w' => e = .returned (.bool (decide (0 ≤ Lib.idxFunc p true s))) ∧ Below w.heap.size w w' := Any.strings_ContainsFunc_runes Tryf.laysGw17 g lb eg p s w hp
open Go.RowKit Go.Lib in
theorem Tryf.strings_indexFunc_grows (g : Nat) (lb : Array Value) (eg : ∀ args w, (callFunc g args).run Tryf.prog w = .ok (.enter g args) w) (p : Nat → Bool) (truth : Bool) (s : ByteArray) (w : World) (hp : PredGrows Tryf.prog g lb p w) :
    Calls Tryf.prog 34 #[.string s, .func (.func g) #[] lb, .bool truth] w fun e w' => e = .returned (.int .i64 (Lib.idxFunc p truth s)) ∧ Below w.heap.size w w' := Any.strings_indexFunc_grows Tryf.lays315 g lb eg p truth s w hp
open Go.RowKit Go.Lib in
theorem Tryf.strings_IndexFunc_grows (g : Nat) (lb : Array Value) (eg : ∀ args w, (callFunc g args).run Tryf.prog w = .ok (.enter g args) w) (p : Nat → Bool) (s : ByteArray) (w : World) (hp : PredGrows Tryf.prog g lb p w) :
    Calls Tryf.prog 26 #[.string s, .func (.func g) #[] lb] w fun e w' => e = .returned (.int .i64 (Lib.idxFunc p true s)) ∧ Below w.heap.size w w' := Any.strings_IndexFunc_grows Tryf.laysGw15 g lb eg p s w hp
open Go.RowKit Go.Lib in
theorem Tryf.strings_ContainsFunc_grows (g : Nat) (lb : Array Value) (eg : ∀ args w, (callFunc g args).run Tryf.prog w = .ok (.enter g args) w) (p : Nat → Bool) (s : ByteArray) (w : World) (hp : PredGrows Tryf.prog g lb p w) :
    Calls Tryf.prog 21 #[.string s, .func (.func g) #[] lb] w fun e w' => e = .returned (.bool (decide (0 ≤ Lib.idxFunc p true s))) ∧ Below w.heap.size w w' := Any.strings_ContainsFunc_grows Tryf.laysGw17 g lb eg p s w hp
end Go.Proofs
