/-
  DERIVED: THE SHELF's CONTRACTS AT THIS DUMP, IN PLAIN WORDS (tools/lay-plain.mjs out of 'TryfShelf.lean', which tools/lay-shelf.mjs wrote): THE SAME DECLARATIONS UNDER THE SAME NAMES: 'import', 'namespace', 'open', 'def', 'theorem' AND NOTHING ELSE: no command of the shelf's: FOR A HAND-IN. Each laying: the table of numbers ('.._ren') and one theorem, a field a fact of the dump's own or the kernel's comparison; each contract: ONE APPLICATION.
-/
import Derived.Shelf.Strings.Search1
import Derived.Shelf.Strings.Search2
import Derived.Shelf.Strings.Search3
import Derived.Shelf.Strings.Cut
import Derived.Shelf.Strings.Count
import Derived.Shelf.LaysM
import Derived.Shelf.Strings.Shaped
import Derived.Test.Qxb6608620aFmtProg
namespace Go.Proofs
open Go.Shelf
def Tryf.lays217_ren : Go.Shelf.Ren := ⟨fun | 217 => 36 | 266 => 40 | n => n, fun | 9 => 9 | 5 => 5 | 3 => 3 | n => n, fun | n => n⟩
theorem Tryf.lays217 : Go.Proofs.Lays.n217 Tryf.prog Tryf.lays217_ren := {
  mixed := by kernel_rfl
  f217 := Tryf.func36.trans (congrArg some (by kernel_rfl))
  f266 := Tryf.func40.trans (congrArg some (by kernel_rfl))
  t3 := Tryf.underlying3
  a3 := Tryf.isAgg3
  z3 := Tryf.sizeOf3
  v3 := Tryf.zeroValue3
  t5 := Tryf.underlying5
  a5 := Tryf.isAgg5
  z5 := Tryf.sizeOf5
  v5 := Tryf.zeroValue5
  t9 := Tryf.underlying9
  a9 := Tryf.isAgg9
  z9 := Tryf.sizeOf9
  v9 := Tryf.zeroValue9 }
open Go.RowKit Go.Lib in
/-- internal/stringslite.IndexByte (what strings.IndexByte calls): IT RETURNS 'Lib.indexByte s c'; the world is as it was. (LAID: no walk: one application.) -/
theorem Tryf.stringslite_IndexByte (s : ByteArray) (c : Int) (w : World) :
    Calls Tryf.prog 36 #[.string s, .int .u8 c] w fun e w' => e = .returned (.int .i64 (Lib.indexByte s.data.toList c.toNat.toUInt8)) ∧ w' = w := Any.stringslite_IndexByte Tryf.lays217 s c w
def Tryf.lays224_ren : Go.Shelf.Ren := ⟨fun | 224 => 38 | n => n, fun | 3 => 3 | n => n, fun | n => n⟩
theorem Tryf.lays224 : Go.Proofs.Lays.n224 Tryf.prog Tryf.lays224_ren := {
  mixed := by kernel_rfl
  f224 := Tryf.func38.trans (congrArg some (by kernel_rfl))
  t3 := Tryf.underlying3
  a3 := Tryf.isAgg3
  z3 := Tryf.sizeOf3
  v3 := Tryf.zeroValue3 }
open Go.RowKit Go.Lib in
/-- internal/bytealg.Cutover: "Cutover reports the number of failures of IndexByte we should tolerate before switching over to Index. n is the number of bytes processed so far.": on amd64: (n + 16) / 8. (LAID: no walk: one application.) -/
theorem Tryf.bytealg_Cutover (n : Int) (h0 : 0 ≤ n) (h1 : n < 4611686018427387904) (w : World) :
    Calls Tryf.prog 38 #[.int .i64 n] w fun e w' => e = .returned (.int .i64 ((n + 16) / 8)) ∧ w' = w := Any.bytealg_Cutover Tryf.lays224 n h0 h1 w
def Tryf.lays314_ren : Go.Shelf.Ren := ⟨fun | 314 => 41 | n => n, fun | 9 => 9 | 51 => 88 | 3 => 3 | 4 => 4 | 5 => 5 | 46 => 87 | n => n, fun | n => n⟩
theorem Tryf.lays314 : Go.Proofs.Lays.n314 Tryf.prog Tryf.lays314_ren := {
  mixed := by kernel_rfl
  f314 := Tryf.func41.trans (congrArg some (by kernel_rfl))
  t3 := Tryf.underlying3
  a3 := Tryf.isAgg3
  z3 := Tryf.sizeOf3
  v3 := Tryf.zeroValue3
  t4 := Tryf.underlying4
  a4 := Tryf.isAgg4
  z4 := Tryf.sizeOf4
  v4 := Tryf.zeroValue4
  t5 := Tryf.underlying5
  a5 := Tryf.isAgg5
  z5 := Tryf.sizeOf5
  v5 := Tryf.zeroValue5
  t9 := Tryf.underlying9
  a9 := Tryf.isAgg9
  z9 := Tryf.sizeOf9
  v9 := Tryf.zeroValue9
  t46 := Tryf.underlying87
  a46 := Tryf.isAgg87
  z46 := Tryf.sizeOf87
  v46 := Tryf.zeroValue87
  t51 := Tryf.underlying88
  a51 := Tryf.isAgg88
  z51 := Tryf.sizeOf88
  v51 := Tryf.zeroValue88 }
open Go.RowKit Go.Lib in
/-- hashStr: "returns the hash and the appropriate multiplicative factor for use in Rabin-Karp algorithm": THE HASH OF ALL OF sep, AND 16777619 ^ len(sep), both in uint32. (LAID: no walk: one application.) -/
theorem Tryf.bytealg_hashStr (sep : ByteArray) (hs : sep.size < 4294967281) (w : World) :
    Calls Tryf.prog 41 #[.string sep] w fun e w' => e = .returned (.tuple #[.int .u32 (RK.H sep.data.toList % 4294967296), .int .u32 (16777619 ^ sep.size % 4294967296)]) ∧ w' = w := Any.bytealg_hashStr Tryf.lays314 sep hs w
def Tryf.lays267_ren : Go.Shelf.Ren := ⟨fun | 267 => 39 | 314 => 41 | n => n, fun | 9 => 9 | 3 => 3 | 146 => 89 | 51 => 88 | 4 => 4 | 5 => 5 | 46 => 87 | n => n, fun | n => n⟩
theorem Tryf.lays267 : Go.Proofs.Lays.n267 Tryf.prog Tryf.lays267_ren := {
  mixed := by kernel_rfl
  f267 := Tryf.func39.trans (congrArg some (by kernel_rfl))
  f314 := Tryf.func41.trans (congrArg some (by kernel_rfl))
  t3 := Tryf.underlying3
  a3 := Tryf.isAgg3
  z3 := Tryf.sizeOf3
  v3 := Tryf.zeroValue3
  t4 := Tryf.underlying4
  a4 := Tryf.isAgg4
  z4 := Tryf.sizeOf4
  v4 := Tryf.zeroValue4
  t5 := Tryf.underlying5
  a5 := Tryf.isAgg5
  z5 := Tryf.sizeOf5
  v5 := Tryf.zeroValue5
  t9 := Tryf.underlying9
  a9 := Tryf.isAgg9
  z9 := Tryf.sizeOf9
  v9 := Tryf.zeroValue9
  t46 := Tryf.underlying87
  a46 := Tryf.isAgg87
  z46 := Tryf.sizeOf87
  v46 := Tryf.zeroValue87
  t51 := Tryf.underlying88
  a51 := Tryf.isAgg88
  z51 := Tryf.sizeOf88
  v51 := Tryf.zeroValue88
  t146 := Tryf.underlying89
  a146 := Tryf.isAgg89
  z146 := Tryf.sizeOf89
  v146 := Tryf.zeroValue89 }
open Go.RowKit Go.Lib in
theorem Tryf.bytealg_IndexRabinKarp (s sep : ByteArray) (h1 : 1 ≤ sep.size) (h2 : sep.size ≤ s.size) (hs : s.size < 4294967281) (w : World) :
    Calls Tryf.prog 39 #[.string s, .string sep] w fun e w' => e = .returned (.int .i64 (Lib.index s.data.toList sep.data.toList)) ∧ w' = w := Any.bytealg_IndexRabinKarp Tryf.lays267 s sep h1 h2 hs w
def Tryf.lays219_ren : Go.Shelf.Ren := ⟨fun | 219 => 35 | 217 => 36 | 225 => 37 | 224 => 38 | 267 => 39 | 266 => 40 | 314 => 41 | n => n, fun | 9 => 9 | 3 => 3 | 4 => 4 | 5 => 5 | 46 => 87 | 146 => 89 | 51 => 88 | n => n, fun | 1 => 0 | n => n⟩
theorem Tryf.lays219 : Go.Proofs.Lays.n219 Tryf.prog Tryf.lays219_ren := {
  mixed := by kernel_rfl
  f217 := Tryf.func36.trans (congrArg some (by kernel_rfl))
  f219 := Tryf.func35.trans (congrArg some (by kernel_rfl))
  f224 := Tryf.func38.trans (congrArg some (by kernel_rfl))
  f225 := Tryf.func37.trans (congrArg some (by kernel_rfl))
  f266 := Tryf.func40.trans (congrArg some (by kernel_rfl))
  f267 := Tryf.func39.trans (congrArg some (by kernel_rfl))
  f314 := Tryf.func41.trans (congrArg some (by kernel_rfl))
  t3 := Tryf.underlying3
  a3 := Tryf.isAgg3
  z3 := Tryf.sizeOf3
  v3 := Tryf.zeroValue3
  t4 := Tryf.underlying4
  a4 := Tryf.isAgg4
  z4 := Tryf.sizeOf4
  v4 := Tryf.zeroValue4
  t5 := Tryf.underlying5
  a5 := Tryf.isAgg5
  z5 := Tryf.sizeOf5
  v5 := Tryf.zeroValue5
  t9 := Tryf.underlying9
  a9 := Tryf.isAgg9
  z9 := Tryf.sizeOf9
  v9 := Tryf.zeroValue9
  t46 := Tryf.underlying87
  a46 := Tryf.isAgg87
  z46 := Tryf.sizeOf87
  v46 := Tryf.zeroValue87
  t51 := Tryf.underlying88
  a51 := Tryf.isAgg88
  z51 := Tryf.sizeOf88
  v51 := Tryf.zeroValue88
  t146 := Tryf.underlying89
  a146 := Tryf.isAgg89
  z146 := Tryf.sizeOf89
  v146 := Tryf.zeroValue89
  g1 := by kernel_rfl }
open Go.RowKit Go.Lib in
/-- internal/stringslite.Index (what strings.Index calls) AT A substr OF ONE BYTE c: IT RETURNS 'Lib.indexByte s c'; the world is as it was. (LAID: no walk: one application.) -/
theorem Tryf.stringslite_Index_one (s : ByteArray) (c : UInt8) (w : World) :
    Calls Tryf.prog 35 #[.string s, .string ⟨#[c]⟩] w fun e w' => e = .returned (.int .i64 (Lib.indexByte s.data.toList c)) ∧ w' = w := Any.stringslite_Index_one Tryf.lays219 s c w
open Go.RowKit Go.Lib in
/-- internal/stringslite.Index (what strings.Index calls) AT A substr OF WHATEVER LENGTH: IT RETURNS 'Lib.index s substr'; the world is as it was. 'm': what internal/bytealg.MaxLen holds: whatever. (LAID: no walk: one application.) -/
theorem Tryf.stringslite_Index (s sub : ByteArray) (m : Int) (w : World) (hs : s.size < 4294967281) (hm : w.cell? ⟨0, 0, none⟩ = some (.int .i64 m)) :
    Calls Tryf.prog 35 #[.string s, .string sub] w fun e w' => e = .returned (.int .i64 (Lib.index s.data.toList sub.data.toList)) ∧ w' = w := Any.stringslite_Index Tryf.lays219 s sub m w hs hm
def Tryf.lays143_ren : Go.Shelf.Ren := ⟨fun | 143 => 33 | 219 => 35 | 217 => 36 | 225 => 37 | 224 => 38 | 267 => 39 | 266 => 40 | 314 => 41 | n => n, fun | 9 => 9 | 3 => 3 | 4 => 4 | 5 => 5 | 46 => 87 | 146 => 89 | 51 => 88 | n => n, fun | 1 => 0 | n => n⟩
theorem Tryf.lays143 : Go.Proofs.Lays.n143 Tryf.prog Tryf.lays143_ren := {
  mixed := by kernel_rfl
  f143 := Tryf.func33.trans (congrArg some (by kernel_rfl))
  f217 := Tryf.func36.trans (congrArg some (by kernel_rfl))
  f219 := Tryf.func35.trans (congrArg some (by kernel_rfl))
  f224 := Tryf.func38.trans (congrArg some (by kernel_rfl))
  f225 := Tryf.func37.trans (congrArg some (by kernel_rfl))
  f266 := Tryf.func40.trans (congrArg some (by kernel_rfl))
  f267 := Tryf.func39.trans (congrArg some (by kernel_rfl))
  f314 := Tryf.func41.trans (congrArg some (by kernel_rfl))
  t3 := Tryf.underlying3
  a3 := Tryf.isAgg3
  z3 := Tryf.sizeOf3
  v3 := Tryf.zeroValue3
  t4 := Tryf.underlying4
  a4 := Tryf.isAgg4
  z4 := Tryf.sizeOf4
  v4 := Tryf.zeroValue4
  t5 := Tryf.underlying5
  a5 := Tryf.isAgg5
  z5 := Tryf.sizeOf5
  v5 := Tryf.zeroValue5
  t9 := Tryf.underlying9
  a9 := Tryf.isAgg9
  z9 := Tryf.sizeOf9
  v9 := Tryf.zeroValue9
  t46 := Tryf.underlying87
  a46 := Tryf.isAgg87
  z46 := Tryf.sizeOf87
  v46 := Tryf.zeroValue87
  t51 := Tryf.underlying88
  a51 := Tryf.isAgg88
  z51 := Tryf.sizeOf88
  v51 := Tryf.zeroValue88
  t146 := Tryf.underlying89
  a146 := Tryf.isAgg89
  z146 := Tryf.sizeOf89
  v146 := Tryf.zeroValue89
  g1 := by kernel_rfl }
open Go.RowKit Go.Lib in
/-- strings.Index: "Index returns the index of the first instance of substr in s, or -1 if substr is not present in s.": AT A substr OF ONE BYTE c: IT RETURNS 'Lib.indexByte s c'; the world is as it was. (LAID: no walk: one application.) -/
theorem Tryf.strings_Index_one (s : ByteArray) (c : UInt8) (w : World) :
    Calls Tryf.prog 33 #[.string s, .string ⟨#[c]⟩] w fun e w' => e = .returned (.int .i64 (Lib.indexByte s.data.toList c)) ∧ w' = w := Any.strings_Index_one Tryf.lays143 s c w
open Go.RowKit Go.Lib in
/-- strings.Index: "Index returns the index of the first instance of substr in s, or -1 if substr is not present in s.": IT RETURNS 'Lib.index s substr'; the world is as it was. (LAID: no walk: one application.) -/
theorem Tryf.strings_Index (s sub : ByteArray) (m : Int) (w : World) (hs : s.size < 4294967281) (hm : w.cell? ⟨0, 0, none⟩ = some (.int .i64 m)) :
    Calls Tryf.prog 33 #[.string s, .string sub] w fun e w' => e = .returned (.int .i64 (Lib.index s.data.toList sub.data.toList)) ∧ w' = w := Any.strings_Index Tryf.lays143 s sub m w hs hm
def Tryf.lays220_ren : Go.Shelf.Ren := ⟨fun | 220 => 34 | 219 => 35 | 217 => 36 | 225 => 37 | 224 => 38 | 267 => 39 | 266 => 40 | 314 => 41 | n => n, fun | 9 => 9 | 4 => 4 | 3 => 3 | 5 => 5 | 46 => 87 | 146 => 89 | 51 => 88 | n => n, fun | 1 => 0 | n => n⟩
theorem Tryf.lays220 : Go.Proofs.Lays.n220 Tryf.prog Tryf.lays220_ren := {
  mixed := by kernel_rfl
  f217 := Tryf.func36.trans (congrArg some (by kernel_rfl))
  f219 := Tryf.func35.trans (congrArg some (by kernel_rfl))
  f220 := Tryf.func34.trans (congrArg some (by kernel_rfl))
  f224 := Tryf.func38.trans (congrArg some (by kernel_rfl))
  f225 := Tryf.func37.trans (congrArg some (by kernel_rfl))
  f266 := Tryf.func40.trans (congrArg some (by kernel_rfl))
  f267 := Tryf.func39.trans (congrArg some (by kernel_rfl))
  f314 := Tryf.func41.trans (congrArg some (by kernel_rfl))
  t3 := Tryf.underlying3
  a3 := Tryf.isAgg3
  z3 := Tryf.sizeOf3
  v3 := Tryf.zeroValue3
  t4 := Tryf.underlying4
  a4 := Tryf.isAgg4
  z4 := Tryf.sizeOf4
  v4 := Tryf.zeroValue4
  t5 := Tryf.underlying5
  a5 := Tryf.isAgg5
  z5 := Tryf.sizeOf5
  v5 := Tryf.zeroValue5
  t9 := Tryf.underlying9
  a9 := Tryf.isAgg9
  z9 := Tryf.sizeOf9
  v9 := Tryf.zeroValue9
  t46 := Tryf.underlying87
  a46 := Tryf.isAgg87
  z46 := Tryf.sizeOf87
  v46 := Tryf.zeroValue87
  t51 := Tryf.underlying88
  a51 := Tryf.isAgg88
  z51 := Tryf.sizeOf88
  v51 := Tryf.zeroValue88
  t146 := Tryf.underlying89
  a146 := Tryf.isAgg89
  z146 := Tryf.sizeOf89
  v146 := Tryf.zeroValue89
  g1 := by kernel_rfl }
open Go.RowKit Go.Lib in
/-- internal/stringslite.Cut (what strings.Cut calls): IT RETURNS 'Lib.cut s sep'; the world is as it was but for the count of draws. (LAID: no walk: one application.) -/
theorem Tryf.stringslite_Cut (s sep : ByteArray) (m : Int) (w : World) (hs : s.size < 4294967281) (hm : w.cell? ⟨0, 0, none⟩ = some (.int .i64 m)) :
    Calls Tryf.prog 34 #[.string s, .string sep] w fun e w' => e = .returned (.tuple #[.string ⟨(Lib.cut s.data.toList sep.data.toList).1.toArray⟩, .string ⟨(Lib.cut s.data.toList sep.data.toList).2.1.toArray⟩, .bool (Lib.cut s.data.toList sep.data.toList).2.2]) ∧ ∃ n, w' = w.drewN n := Any.stringslite_Cut Tryf.lays220 s sep m w hs hm
def Tryf.lays145_ren : Go.Shelf.Ren := ⟨fun | 145 => 28 | 220 => 34 | 219 => 35 | 217 => 36 | 225 => 37 | 224 => 38 | 267 => 39 | 266 => 40 | 314 => 41 | n => n, fun | 9 => 9 | 4 => 4 | 59 => 76 | 3 => 3 | 5 => 5 | 46 => 87 | 146 => 89 | 51 => 88 | n => n, fun | 1 => 0 | n => n⟩
theorem Tryf.lays145 : Go.Proofs.Lays.n145 Tryf.prog Tryf.lays145_ren := {
  mixed := by kernel_rfl
  f145 := Tryf.func28.trans (congrArg some (by kernel_rfl))
  f217 := Tryf.func36.trans (congrArg some (by kernel_rfl))
  f219 := Tryf.func35.trans (congrArg some (by kernel_rfl))
  f220 := Tryf.func34.trans (congrArg some (by kernel_rfl))
  f224 := Tryf.func38.trans (congrArg some (by kernel_rfl))
  f225 := Tryf.func37.trans (congrArg some (by kernel_rfl))
  f266 := Tryf.func40.trans (congrArg some (by kernel_rfl))
  f267 := Tryf.func39.trans (congrArg some (by kernel_rfl))
  f314 := Tryf.func41.trans (congrArg some (by kernel_rfl))
  t3 := Tryf.underlying3
  a3 := Tryf.isAgg3
  z3 := Tryf.sizeOf3
  v3 := Tryf.zeroValue3
  t4 := Tryf.underlying4
  a4 := Tryf.isAgg4
  z4 := Tryf.sizeOf4
  v4 := Tryf.zeroValue4
  t5 := Tryf.underlying5
  a5 := Tryf.isAgg5
  z5 := Tryf.sizeOf5
  v5 := Tryf.zeroValue5
  t9 := Tryf.underlying9
  a9 := Tryf.isAgg9
  z9 := Tryf.sizeOf9
  v9 := Tryf.zeroValue9
  t46 := Tryf.underlying87
  a46 := Tryf.isAgg87
  z46 := Tryf.sizeOf87
  v46 := Tryf.zeroValue87
  t51 := Tryf.underlying88
  a51 := Tryf.isAgg88
  z51 := Tryf.sizeOf88
  v51 := Tryf.zeroValue88
  t59 := Tryf.underlying76
  a59 := Tryf.isAgg76
  z59 := Tryf.sizeOf76
  v59 := Tryf.zeroValue76
  t146 := Tryf.underlying89
  a146 := Tryf.isAgg89
  z146 := Tryf.sizeOf89
  v146 := Tryf.zeroValue89
  g1 := by kernel_rfl }
open Go.RowKit Go.Lib in
/-- strings.Cut: "Cut slices s around the first instance of sep, returning the text before and after sep. The found result reports whether sep appears in s. If sep does not appear in s, cut returns s, "", false.": IT RETURNS 'Lib.cut s sep'; the world is as it was but for the count of draws. (LAID: no walk: one application.) -/
theorem Tryf.strings_Cut (s sep : ByteArray) (m : Int) (w : World) (hs : s.size < 4294967281) (hm : w.cell? ⟨0, 0, none⟩ = some (.int .i64 m)) :
    Calls Tryf.prog 28 #[.string s, .string sep] w fun e w' => e = .returned (.tuple #[.string ⟨(Lib.cut s.data.toList sep.data.toList).1.toArray⟩, .string ⟨(Lib.cut s.data.toList sep.data.toList).2.1.toArray⟩, .bool (Lib.cut s.data.toList sep.data.toList).2.2]) ∧ ∃ n, w' = w.drewN n := Any.strings_Cut Tryf.lays145 s sep m w hs hm
def Tryf.lays138_ren : Go.Shelf.Ren := ⟨fun | 138 => 27 | 195 => 31 | 218 => 32 | 143 => 33 | 219 => 35 | 217 => 36 | 225 => 37 | 224 => 38 | 267 => 39 | 266 => 40 | 314 => 41 | n => n, fun | 9 => 9 | 3 => 3 | 4 => 4 | 5 => 5 | 0 => 0 | 46 => 87 | 146 => 89 | 51 => 88 | n => n, fun | 1 => 0 | n => n⟩
theorem Tryf.lays138 : Go.Proofs.Lays.n138 Tryf.prog Tryf.lays138_ren := {
  mixed := by kernel_rfl
  f138 := Tryf.func27.trans (congrArg some (by kernel_rfl))
  f143 := Tryf.func33.trans (congrArg some (by kernel_rfl))
  f195 := Tryf.func31.trans (congrArg some (by kernel_rfl))
  f217 := Tryf.func36.trans (congrArg some (by kernel_rfl))
  f218 := Tryf.func32.trans (congrArg some (by kernel_rfl))
  f219 := Tryf.func35.trans (congrArg some (by kernel_rfl))
  f224 := Tryf.func38.trans (congrArg some (by kernel_rfl))
  f225 := Tryf.func37.trans (congrArg some (by kernel_rfl))
  f266 := Tryf.func40.trans (congrArg some (by kernel_rfl))
  f267 := Tryf.func39.trans (congrArg some (by kernel_rfl))
  f314 := Tryf.func41.trans (congrArg some (by kernel_rfl))
  t0 := Tryf.underlying0
  a0 := Tryf.isAgg0
  z0 := Tryf.sizeOf0
  v0 := Tryf.zeroValue0
  t3 := Tryf.underlying3
  a3 := Tryf.isAgg3
  z3 := Tryf.sizeOf3
  v3 := Tryf.zeroValue3
  t4 := Tryf.underlying4
  a4 := Tryf.isAgg4
  z4 := Tryf.sizeOf4
  v4 := Tryf.zeroValue4
  t5 := Tryf.underlying5
  a5 := Tryf.isAgg5
  z5 := Tryf.sizeOf5
  v5 := Tryf.zeroValue5
  t9 := Tryf.underlying9
  a9 := Tryf.isAgg9
  z9 := Tryf.sizeOf9
  v9 := Tryf.zeroValue9
  t46 := Tryf.underlying87
  a46 := Tryf.isAgg87
  z46 := Tryf.sizeOf87
  v46 := Tryf.zeroValue87
  t51 := Tryf.underlying88
  a51 := Tryf.isAgg88
  z51 := Tryf.sizeOf88
  v51 := Tryf.zeroValue88
  t146 := Tryf.underlying89
  a146 := Tryf.isAgg89
  z146 := Tryf.sizeOf89
  v146 := Tryf.zeroValue89
  g1 := by kernel_rfl }
open Go.RowKit Go.Lib in
/-- strings.Count AT A substr OF ONE BYTE ('hp'): "Count counts the number of non-overlapping instances of substr in s.": IT RETURNS 'Lib.countByte s (that byte)'; the world is as it was. ✋ NO CONTRACT HERE YET at an empty substr (utf8.RuneCountInString) or at a longer one (a loop over strings.Index). (LAID: no walk: one application.) -/
theorem Tryf.strings_Count_one (s : ByteArray) (c : UInt8) (w : World) :
    Calls Tryf.prog 27 #[.string s, .string ⟨#[c]⟩] w fun e w' => e = .returned (.int .i64 (Lib.countByte s.data.toList c)) ∧ w' = w := Any.strings_Count_one Tryf.lays138 s c w
open Go.RowKit Go.Lib in
/-- strings.Count AT A substr OF TWO BYTES OR MORE: "Count counts the number of non-overlapping instances of substr in s.": IT RETURNS 'Lib.count s substr'; the world is as it was. (LAID: no walk: one application.) -/
theorem Tryf.strings_Count (s sub : ByteArray) (m : Int) (w : World) (hs : s.size < 4294967281) (hm : w.cell? ⟨0, 0, none⟩ = some (.int .i64 m)) (h2 : 2 ≤ sub.size) :
    Calls Tryf.prog 27 #[.string s, .string sub] w fun e w' => e = .returned (.int .i64 (Lib.countB s sub)) ∧ w' = w := Any.strings_Count Tryf.lays138 s sub m w hs hm h2
def Tryf.laysM219_ren : Go.Shelf.Ren := ⟨fun | 219 => 35 | 217 => 36 | 225 => 37 | 224 => 38 | 267 => 39 | 266 => 40 | 314 => 41 | n => n, fun | 9 => 9 | 3 => 3 | 4 => 4 | 5 => 5 | 46 => 87 | 146 => 89 | 51 => 88 | n => n, fun | 1 => 0 | n => n⟩
theorem Tryf.laysM219 : Go.Proofs.LaysM.n219 Tryf.prog Tryf.laysM219_ren := {
  mixed := by kernel_rfl
  f217 := Tryf.func36.trans (congrArg some (by kernel_rfl))
  f219 := Tryf.func35.trans (congrArg some (by kernel_rfl))
  f224 := Tryf.func38.trans (congrArg some (by kernel_rfl))
  f225 := Tryf.func37.trans (congrArg some (by kernel_rfl))
  f266 := Tryf.func40.trans (congrArg some (by kernel_rfl))
  f267 := Tryf.func39.trans (congrArg some (by kernel_rfl))
  f314 := Tryf.func41.trans (congrArg some (by kernel_rfl))
  t3 := Tryf.underlying3
  a3 := Tryf.isAgg3
  z3 := Tryf.sizeOf3
  v3 := Tryf.zeroValue3
  t4 := Tryf.underlying4
  a4 := Tryf.isAgg4
  z4 := Tryf.sizeOf4
  v4 := Tryf.zeroValue4
  t5 := Tryf.underlying5
  a5 := Tryf.isAgg5
  z5 := Tryf.sizeOf5
  v5 := Tryf.zeroValue5
  t9 := Tryf.underlying9
  a9 := Tryf.isAgg9
  z9 := Tryf.sizeOf9
  v9 := Tryf.zeroValue9
  t46 := Tryf.underlying87
  a46 := Tryf.isAgg87
  z46 := Tryf.sizeOf87
  v46 := Tryf.zeroValue87
  t51 := Tryf.underlying88
  a51 := Tryf.isAgg88
  z51 := Tryf.sizeOf88
  v51 := Tryf.zeroValue88
  t146 := Tryf.underlying89
  a146 := Tryf.isAgg89
  z146 := Tryf.sizeOf89
  v146 := Tryf.zeroValue89
  g1 := by kernel_rfl
  i3 := by kernel_rfl
  i4 := by kernel_rfl
  i5 := by kernel_rfl
  i9 := by kernel_rfl
  i46 := by kernel_rfl
  i51 := by kernel_rfl
  i146 := by kernel_rfl
  m1 := by kernel_rfl
  s1_3 := fun w h => Go.Proofs.cell_of_shapedOpen_int (zero := #[.int .i64 0]) (t := 3) h (of_decide_eq_true (by kernel_rfl)) (by kernel_rfl) rfl (by kernel_rfl) (by kernel_rfl) Tryf.underlying3 }
open Go.RowKit Go.Lib in
theorem Tryf.stringslite_Index_shaped (s sub : ByteArray) (w : World) (h : w.ShapedOpen Tryf.prog) (hs : s.size < 4294967281) :
    Calls Tryf.prog 35 #[.string s, .string sub] w fun e w' => e = .returned (.int .i64 (Lib.index s.data.toList sub.data.toList)) ∧ w' = w := Any.stringslite_Index_shaped Tryf.laysM219 s sub w h hs
def Tryf.laysM143_ren : Go.Shelf.Ren := ⟨fun | 143 => 33 | 219 => 35 | 217 => 36 | 225 => 37 | 224 => 38 | 267 => 39 | 266 => 40 | 314 => 41 | n => n, fun | 9 => 9 | 3 => 3 | 4 => 4 | 5 => 5 | 46 => 87 | 146 => 89 | 51 => 88 | n => n, fun | 1 => 0 | n => n⟩
theorem Tryf.laysM143 : Go.Proofs.LaysM.n143 Tryf.prog Tryf.laysM143_ren := {
  mixed := by kernel_rfl
  f143 := Tryf.func33.trans (congrArg some (by kernel_rfl))
  f217 := Tryf.func36.trans (congrArg some (by kernel_rfl))
  f219 := Tryf.func35.trans (congrArg some (by kernel_rfl))
  f224 := Tryf.func38.trans (congrArg some (by kernel_rfl))
  f225 := Tryf.func37.trans (congrArg some (by kernel_rfl))
  f266 := Tryf.func40.trans (congrArg some (by kernel_rfl))
  f267 := Tryf.func39.trans (congrArg some (by kernel_rfl))
  f314 := Tryf.func41.trans (congrArg some (by kernel_rfl))
  t3 := Tryf.underlying3
  a3 := Tryf.isAgg3
  z3 := Tryf.sizeOf3
  v3 := Tryf.zeroValue3
  t4 := Tryf.underlying4
  a4 := Tryf.isAgg4
  z4 := Tryf.sizeOf4
  v4 := Tryf.zeroValue4
  t5 := Tryf.underlying5
  a5 := Tryf.isAgg5
  z5 := Tryf.sizeOf5
  v5 := Tryf.zeroValue5
  t9 := Tryf.underlying9
  a9 := Tryf.isAgg9
  z9 := Tryf.sizeOf9
  v9 := Tryf.zeroValue9
  t46 := Tryf.underlying87
  a46 := Tryf.isAgg87
  z46 := Tryf.sizeOf87
  v46 := Tryf.zeroValue87
  t51 := Tryf.underlying88
  a51 := Tryf.isAgg88
  z51 := Tryf.sizeOf88
  v51 := Tryf.zeroValue88
  t146 := Tryf.underlying89
  a146 := Tryf.isAgg89
  z146 := Tryf.sizeOf89
  v146 := Tryf.zeroValue89
  g1 := by kernel_rfl
  i3 := by kernel_rfl
  i4 := by kernel_rfl
  i5 := by kernel_rfl
  i9 := by kernel_rfl
  i46 := by kernel_rfl
  i51 := by kernel_rfl
  i146 := by kernel_rfl
  m1 := by kernel_rfl
  s1_3 := fun w h => Go.Proofs.cell_of_shapedOpen_int (zero := #[.int .i64 0]) (t := 3) h (of_decide_eq_true (by kernel_rfl)) (by kernel_rfl) rfl (by kernel_rfl) (by kernel_rfl) Tryf.underlying3 }
open Go.RowKit Go.Lib in
theorem Tryf.strings_Index_shaped (s sub : ByteArray) (w : World) (h : w.ShapedOpen Tryf.prog) (hs : s.size < 4294967281) :
    Calls Tryf.prog 33 #[.string s, .string sub] w fun e w' => e = .returned (.int .i64 (Lib.index s.data.toList sub.data.toList)) ∧ w' = w := Any.strings_Index_shaped Tryf.laysM143 s sub w h hs
def Tryf.laysM220_ren : Go.Shelf.Ren := ⟨fun | 220 => 34 | 219 => 35 | 217 => 36 | 225 => 37 | 224 => 38 | 267 => 39 | 266 => 40 | 314 => 41 | n => n, fun | 9 => 9 | 4 => 4 | 3 => 3 | 5 => 5 | 46 => 87 | 146 => 89 | 51 => 88 | n => n, fun | 1 => 0 | n => n⟩
theorem Tryf.laysM220 : Go.Proofs.LaysM.n220 Tryf.prog Tryf.laysM220_ren := {
  mixed := by kernel_rfl
  f217 := Tryf.func36.trans (congrArg some (by kernel_rfl))
  f219 := Tryf.func35.trans (congrArg some (by kernel_rfl))
  f220 := Tryf.func34.trans (congrArg some (by kernel_rfl))
  f224 := Tryf.func38.trans (congrArg some (by kernel_rfl))
  f225 := Tryf.func37.trans (congrArg some (by kernel_rfl))
  f266 := Tryf.func40.trans (congrArg some (by kernel_rfl))
  f267 := Tryf.func39.trans (congrArg some (by kernel_rfl))
  f314 := Tryf.func41.trans (congrArg some (by kernel_rfl))
  t3 := Tryf.underlying3
  a3 := Tryf.isAgg3
  z3 := Tryf.sizeOf3
  v3 := Tryf.zeroValue3
  t4 := Tryf.underlying4
  a4 := Tryf.isAgg4
  z4 := Tryf.sizeOf4
  v4 := Tryf.zeroValue4
  t5 := Tryf.underlying5
  a5 := Tryf.isAgg5
  z5 := Tryf.sizeOf5
  v5 := Tryf.zeroValue5
  t9 := Tryf.underlying9
  a9 := Tryf.isAgg9
  z9 := Tryf.sizeOf9
  v9 := Tryf.zeroValue9
  t46 := Tryf.underlying87
  a46 := Tryf.isAgg87
  z46 := Tryf.sizeOf87
  v46 := Tryf.zeroValue87
  t51 := Tryf.underlying88
  a51 := Tryf.isAgg88
  z51 := Tryf.sizeOf88
  v51 := Tryf.zeroValue88
  t146 := Tryf.underlying89
  a146 := Tryf.isAgg89
  z146 := Tryf.sizeOf89
  v146 := Tryf.zeroValue89
  g1 := by kernel_rfl
  i3 := by kernel_rfl
  i4 := by kernel_rfl
  i5 := by kernel_rfl
  i9 := by kernel_rfl
  i46 := by kernel_rfl
  i51 := by kernel_rfl
  i146 := by kernel_rfl
  m1 := by kernel_rfl
  s1_3 := fun w h => Go.Proofs.cell_of_shapedOpen_int (zero := #[.int .i64 0]) (t := 3) h (of_decide_eq_true (by kernel_rfl)) (by kernel_rfl) rfl (by kernel_rfl) (by kernel_rfl) Tryf.underlying3 }
open Go.RowKit Go.Lib in
theorem Tryf.stringslite_Cut_shaped (s sep : ByteArray) (w : World) (h : w.ShapedOpen Tryf.prog) (hs : s.size < 4294967281) :
    Calls Tryf.prog 34 #[.string s, .string sep] w fun e w' => e = .returned (.tuple #[.string ⟨(Lib.cut s.data.toList sep.data.toList).1.toArray⟩, .string ⟨(Lib.cut s.data.toList sep.data.toList).2.1.toArray⟩, .bool (Lib.cut s.data.toList sep.data.toList).2.2]) ∧ ∃ n, w' = w.drewN n := Any.stringslite_Cut_shaped Tryf.laysM220 s sep w h hs
def Tryf.laysM145_ren : Go.Shelf.Ren := ⟨fun | 145 => 28 | 220 => 34 | 219 => 35 | 217 => 36 | 225 => 37 | 224 => 38 | 267 => 39 | 266 => 40 | 314 => 41 | n => n, fun | 9 => 9 | 4 => 4 | 59 => 76 | 3 => 3 | 5 => 5 | 46 => 87 | 146 => 89 | 51 => 88 | n => n, fun | 1 => 0 | n => n⟩
theorem Tryf.laysM145 : Go.Proofs.LaysM.n145 Tryf.prog Tryf.laysM145_ren := {
  mixed := by kernel_rfl
  f145 := Tryf.func28.trans (congrArg some (by kernel_rfl))
  f217 := Tryf.func36.trans (congrArg some (by kernel_rfl))
  f219 := Tryf.func35.trans (congrArg some (by kernel_rfl))
  f220 := Tryf.func34.trans (congrArg some (by kernel_rfl))
  f224 := Tryf.func38.trans (congrArg some (by kernel_rfl))
  f225 := Tryf.func37.trans (congrArg some (by kernel_rfl))
  f266 := Tryf.func40.trans (congrArg some (by kernel_rfl))
  f267 := Tryf.func39.trans (congrArg some (by kernel_rfl))
  f314 := Tryf.func41.trans (congrArg some (by kernel_rfl))
  t3 := Tryf.underlying3
  a3 := Tryf.isAgg3
  z3 := Tryf.sizeOf3
  v3 := Tryf.zeroValue3
  t4 := Tryf.underlying4
  a4 := Tryf.isAgg4
  z4 := Tryf.sizeOf4
  v4 := Tryf.zeroValue4
  t5 := Tryf.underlying5
  a5 := Tryf.isAgg5
  z5 := Tryf.sizeOf5
  v5 := Tryf.zeroValue5
  t9 := Tryf.underlying9
  a9 := Tryf.isAgg9
  z9 := Tryf.sizeOf9
  v9 := Tryf.zeroValue9
  t46 := Tryf.underlying87
  a46 := Tryf.isAgg87
  z46 := Tryf.sizeOf87
  v46 := Tryf.zeroValue87
  t51 := Tryf.underlying88
  a51 := Tryf.isAgg88
  z51 := Tryf.sizeOf88
  v51 := Tryf.zeroValue88
  t59 := Tryf.underlying76
  a59 := Tryf.isAgg76
  z59 := Tryf.sizeOf76
  v59 := Tryf.zeroValue76
  t146 := Tryf.underlying89
  a146 := Tryf.isAgg89
  z146 := Tryf.sizeOf89
  v146 := Tryf.zeroValue89
  g1 := by kernel_rfl
  i3 := by kernel_rfl
  i4 := by kernel_rfl
  i5 := by kernel_rfl
  i9 := by kernel_rfl
  i46 := by kernel_rfl
  i51 := by kernel_rfl
  i59 := by kernel_rfl
  i146 := by kernel_rfl
  m1 := by kernel_rfl
  s1_3 := fun w h => Go.Proofs.cell_of_shapedOpen_int (zero := #[.int .i64 0]) (t := 3) h (of_decide_eq_true (by kernel_rfl)) (by kernel_rfl) rfl (by kernel_rfl) (by kernel_rfl) Tryf.underlying3 }
open Go.RowKit Go.Lib in
theorem Tryf.strings_Cut_shaped (s sep : ByteArray) (w : World) (h : w.ShapedOpen Tryf.prog) (hs : s.size < 4294967281) :
    Calls Tryf.prog 28 #[.string s, .string sep] w fun e w' => e = .returned (.tuple #[.string ⟨(Lib.cut s.data.toList sep.data.toList).1.toArray⟩, .string ⟨(Lib.cut s.data.toList sep.data.toList).2.1.toArray⟩, .bool (Lib.cut s.data.toList sep.data.toList).2.2]) ∧ ∃ n, w' = w.drewN n := Any.strings_Cut_shaped Tryf.laysM145 s sep w h hs
def Tryf.laysM138_ren : Go.Shelf.Ren := ⟨fun | 138 => 27 | 195 => 31 | 218 => 32 | 143 => 33 | 219 => 35 | 217 => 36 | 225 => 37 | 224 => 38 | 267 => 39 | 266 => 40 | 314 => 41 | n => n, fun | 9 => 9 | 3 => 3 | 4 => 4 | 5 => 5 | 0 => 0 | 46 => 87 | 146 => 89 | 51 => 88 | n => n, fun | 1 => 0 | n => n⟩
theorem Tryf.laysM138 : Go.Proofs.LaysM.n138 Tryf.prog Tryf.laysM138_ren := {
  mixed := by kernel_rfl
  f138 := Tryf.func27.trans (congrArg some (by kernel_rfl))
  f143 := Tryf.func33.trans (congrArg some (by kernel_rfl))
  f195 := Tryf.func31.trans (congrArg some (by kernel_rfl))
  f217 := Tryf.func36.trans (congrArg some (by kernel_rfl))
  f218 := Tryf.func32.trans (congrArg some (by kernel_rfl))
  f219 := Tryf.func35.trans (congrArg some (by kernel_rfl))
  f224 := Tryf.func38.trans (congrArg some (by kernel_rfl))
  f225 := Tryf.func37.trans (congrArg some (by kernel_rfl))
  f266 := Tryf.func40.trans (congrArg some (by kernel_rfl))
  f267 := Tryf.func39.trans (congrArg some (by kernel_rfl))
  f314 := Tryf.func41.trans (congrArg some (by kernel_rfl))
  t0 := Tryf.underlying0
  a0 := Tryf.isAgg0
  z0 := Tryf.sizeOf0
  v0 := Tryf.zeroValue0
  t3 := Tryf.underlying3
  a3 := Tryf.isAgg3
  z3 := Tryf.sizeOf3
  v3 := Tryf.zeroValue3
  t4 := Tryf.underlying4
  a4 := Tryf.isAgg4
  z4 := Tryf.sizeOf4
  v4 := Tryf.zeroValue4
  t5 := Tryf.underlying5
  a5 := Tryf.isAgg5
  z5 := Tryf.sizeOf5
  v5 := Tryf.zeroValue5
  t9 := Tryf.underlying9
  a9 := Tryf.isAgg9
  z9 := Tryf.sizeOf9
  v9 := Tryf.zeroValue9
  t46 := Tryf.underlying87
  a46 := Tryf.isAgg87
  z46 := Tryf.sizeOf87
  v46 := Tryf.zeroValue87
  t51 := Tryf.underlying88
  a51 := Tryf.isAgg88
  z51 := Tryf.sizeOf88
  v51 := Tryf.zeroValue88
  t146 := Tryf.underlying89
  a146 := Tryf.isAgg89
  z146 := Tryf.sizeOf89
  v146 := Tryf.zeroValue89
  g1 := by kernel_rfl
  i0 := by kernel_rfl
  i3 := by kernel_rfl
  i4 := by kernel_rfl
  i5 := by kernel_rfl
  i9 := by kernel_rfl
  i46 := by kernel_rfl
  i51 := by kernel_rfl
  i146 := by kernel_rfl
  m1 := by kernel_rfl
  s1_3 := fun w h => Go.Proofs.cell_of_shapedOpen_int (zero := #[.int .i64 0]) (t := 3) h (of_decide_eq_true (by kernel_rfl)) (by kernel_rfl) rfl (by kernel_rfl) (by kernel_rfl) Tryf.underlying3 }
open Go.RowKit Go.Lib in
theorem Tryf.strings_Count_shaped (s sub : ByteArray) (w : World) (h : w.ShapedOpen Tryf.prog) (hs : s.size < 4294967281) (h2 : 2 ≤ sub.size) :
    Calls Tryf.prog 27 #[.string s, .string sub] w fun e w' => e = .returned (.int .i64 (Lib.countB s sub)) ∧ w' = w := Any.strings_Count_shaped Tryf.laysM138 s sub w h hs h2
end Go.Proofs
