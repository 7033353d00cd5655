/-
  DERIVED: THE SHELF's CONTRACTS AT THIS DUMP, IN PLAIN WORDS (tools/lay-plain.mjs out of 'TrydShelf.lean', which tools/lay-shelf.mjs wrote): THE SAME DECLARATIONS UNDER THE SAME NAMES: 'import', 'namespace', 'open', 'def', 'theorem' AND NOTHING ELSE: no command of the shelf's: FOR A HAND-IN. Each laying: the table of numbers ('.._ren') and one theorem, a field a fact of the dump's own or the kernel's comparison; each contract: ONE APPLICATION.
-/
import Derived.Shelf.Small.Utf8
import Derived.Shelf.Small.Strs
import Derived.Shelf.Small.Wraps
import Derived.Shelf.Strings.Search1
import Derived.Shelf.Strings.Search2
import Derived.Shelf.Strings.Search3
import Derived.Shelf.LaysM
import Derived.Shelf.Strings.Shaped
import Derived.Shelf.Strings.Prefix
import Derived.Shelf.Strings.Runes
import Derived.Shelf.Strings.IndexAny
import Derived.Shelf.Strings.AsciiSet
import Derived.Shelf.Unicode.DecodeSlow
import Derived.Shelf.Unicode.DecodeAny
import Derived.Shelf.Unicode.DecodeLast
import Derived.Test.Qxb6603280aDoorProg
namespace Go.Proofs
open Go.Shelf
def Tryd.lays119_ren : Go.Shelf.Ren := ⟨fun | 119 => 38 | n => n, fun | 21 => 21 | 4 => 4 | n => n, fun | n => n⟩
theorem Tryd.lays119 : Go.Proofs.Lays.n119 Tryd.prog Tryd.lays119_ren := {
  mixed := by kernel_rfl
  f119 := Tryd.func38.trans (congrArg some (by kernel_rfl))
  t4 := Tryd.underlying4
  a4 := Tryd.isAgg4
  z4 := Tryd.sizeOf4
  v4 := Tryd.zeroValue4
  t21 := Tryd.underlying21
  a21 := Tryd.isAgg21
  z21 := Tryd.sizeOf21
  v21 := Tryd.zeroValue21 }
/-- utf8.ValidRune: "ValidRune reports whether r can be legally encoded as UTF-8. Code points that are out of range or a surrogate half are illegal.": IT RETURNS 'Lib.validRune r'; the world is as it was. (LAID: no walk: one application.) -/
theorem Tryd.utf8_ValidRune (r : Int) (w : World) :
    Calls Tryd.prog 38 #[.int .i32 r] w fun e w' => e = .returned (.bool (Lib.validRune r)) ∧ w' = w := Any.utf8_ValidRune Tryd.lays119 r w
def Tryd.lays120_ren : Go.Shelf.Ren := ⟨fun | 120 => 39 | n => n, fun | 5 => 5 | 4 => 4 | n => n, fun | n => n⟩
theorem Tryd.lays120 : Go.Proofs.Lays.n120 Tryd.prog Tryd.lays120_ren := {
  mixed := by kernel_rfl
  f120 := Tryd.func39.trans (congrArg some (by kernel_rfl))
  t4 := Tryd.underlying4
  a4 := Tryd.isAgg4
  z4 := Tryd.sizeOf4
  v4 := Tryd.zeroValue4
  t5 := Tryd.underlying5
  a5 := Tryd.isAgg5
  z5 := Tryd.sizeOf5
  v5 := Tryd.zeroValue5 }
/-- utf8.RuneStart: "RuneStart reports whether the byte could be the first byte of an encoded, possibly invalid rune. Second and subsequent bytes always have the top two bits set to 10.": IT RETURNS 'Lib.runeStart b'; the world is as it was. ('h0', 'h1': b is a byte: a caller has it of every byte that it was handed.) (LAID: no walk: one application.) -/
theorem Tryd.utf8_RuneStart (b : Int) (w : World) (h0 : 0 ≤ b) (h1 : b < 256) :
    Calls Tryd.prog 39 #[.int .u8 b] w fun e w' => e = .returned (.bool (Lib.runeStart b)) ∧ w' = w := Any.utf8_RuneStart Tryd.lays120 b w h0 h1
def Tryd.lays137_ren : Go.Shelf.Ren := ⟨fun | 137 => 15 | 217 => 20 | 266 => 26 | n => n, fun | 9 => 9 | 5 => 5 | 3 => 3 | n => n, fun | n => n⟩
theorem Tryd.lays137 : Go.Proofs.Lays.n137 Tryd.prog Tryd.lays137_ren := {
  mixed := by kernel_rfl
  f137 := Tryd.func15.trans (congrArg some (by kernel_rfl))
  f217 := Tryd.func20.trans (congrArg some (by kernel_rfl))
  f266 := Tryd.func26.trans (congrArg some (by kernel_rfl))
  t3 := Tryd.underlying3
  a3 := Tryd.isAgg3
  z3 := Tryd.sizeOf3
  v3 := Tryd.zeroValue3
  t5 := Tryd.underlying5
  a5 := Tryd.isAgg5
  z5 := Tryd.sizeOf5
  v5 := Tryd.zeroValue5
  t9 := Tryd.underlying9
  a9 := Tryd.isAgg9
  z9 := Tryd.sizeOf9
  v9 := Tryd.zeroValue9 }
open Go.RowKit in
/-- strings.IndexByte: "IndexByte returns the index of the first instance of c in s, or -1 if c is not present in s.": IT RETURNS 'Lib.indexByte s c'; the world is as it was. (LAID: no walk: one application.) -/
theorem Tryd.strings_IndexByte (s : ByteArray) (c : Int) (w : World) :
    Calls Tryd.prog 15 #[.string s, .int .u8 c] w fun e w' => e = .returned (.int .i64 (Lib.indexByte s.data.toList c.toNat.toUInt8)) ∧ w' = w := Any.strings_IndexByte Tryd.lays137 s c w
def Tryd.lays211_ren : Go.Shelf.Ren := ⟨fun | 211 => 27 | 207 => 28 | n => n, fun | 9 => 9 | 4 => 4 | 3 => 3 | n => n, fun | n => n⟩
theorem Tryd.lays211 : Go.Proofs.Lays.n211 Tryd.prog Tryd.lays211_ren := {
  mixed := by kernel_rfl
  f207 := Tryd.func28.trans (congrArg some (by kernel_rfl))
  f211 := Tryd.func27.trans (congrArg some (by kernel_rfl))
  t3 := Tryd.underlying3
  a3 := Tryd.isAgg3
  z3 := Tryd.sizeOf3
  v3 := Tryd.zeroValue3
  t4 := Tryd.underlying4
  a4 := Tryd.isAgg4
  z4 := Tryd.sizeOf4
  v4 := Tryd.zeroValue4
  t9 := Tryd.underlying9
  a9 := Tryd.isAgg9
  z9 := Tryd.sizeOf9
  v9 := Tryd.zeroValue9 }
open Go.RowKit in
/-- internal/stringslite.CutSuffix (what strings.CutSuffix calls). (LAID: no walk: one application.) -/
theorem Tryd.stringslite_CutSuffix (s p : ByteArray) (w : World) (hs : s.size ≤ 9223372036854775807) :
    Calls Tryd.prog 27 #[.string s, .string p] w fun e w' => e = .returned (.tuple #[.string ⟨(Lib.trimSuffix s.data.toList p.data.toList).toArray⟩, .bool (Lib.hasSuffix s.data.toList p.data.toList)]) ∧ w' = w := Any.stringslite_CutSuffix Tryd.lays211 s p w hs
def Tryd.lays104_ren : Go.Shelf.Ren := ⟨fun | 104 => 21 | 211 => 27 | 207 => 28 | n => n, fun | 9 => 9 | 4 => 4 | 24 => 46 | 3 => 3 | n => n, fun | n => n⟩
theorem Tryd.lays104 : Go.Proofs.Lays.n104 Tryd.prog Tryd.lays104_ren := {
  mixed := by kernel_rfl
  f104 := Tryd.func21.trans (congrArg some (by kernel_rfl))
  f207 := Tryd.func28.trans (congrArg some (by kernel_rfl))
  f211 := Tryd.func27.trans (congrArg some (by kernel_rfl))
  t3 := Tryd.underlying3
  a3 := Tryd.isAgg3
  z3 := Tryd.sizeOf3
  v3 := Tryd.zeroValue3
  t4 := Tryd.underlying4
  a4 := Tryd.isAgg4
  z4 := Tryd.sizeOf4
  v4 := Tryd.zeroValue4
  t9 := Tryd.underlying9
  a9 := Tryd.isAgg9
  z9 := Tryd.sizeOf9
  v9 := Tryd.zeroValue9
  t24 := Tryd.underlying46
  a24 := Tryd.isAgg46
  z24 := Tryd.sizeOf46
  v24 := Tryd.zeroValue46 }
open Go.RowKit in
/-- strings.CutSuffix: "CutSuffix returns s without the provided ending suffix string and reports whether it found the suffix. If s doesn't end with suffix, CutSuffix returns s, false. If suffix is the empty string, CutSuffix returns s, true.": IT RETURNS '(Lib.trimSuffix s p, Lib.hasSuffix s p)'; the world is as it was. (LAID: no walk: one application.) -/
theorem Tryd.strings_CutSuffix (s p : ByteArray) (w : World) (hs : s.size ≤ 9223372036854775807) :
    Calls Tryd.prog 21 #[.string s, .string p] w fun e w' => e = .returned (.tuple #[.string ⟨(Lib.trimSuffix s.data.toList p.data.toList).toArray⟩, .bool (Lib.hasSuffix s.data.toList p.data.toList)]) ∧ w' = w := Any.strings_CutSuffix Tryd.lays104 s p w hs
def Tryd.lays217_ren : Go.Shelf.Ren := ⟨fun | 217 => 20 | 266 => 26 | n => n, fun | 9 => 9 | 5 => 5 | 3 => 3 | n => n, fun | n => n⟩
theorem Tryd.lays217 : Go.Proofs.Lays.n217 Tryd.prog Tryd.lays217_ren := {
  mixed := by kernel_rfl
  f217 := Tryd.func20.trans (congrArg some (by kernel_rfl))
  f266 := Tryd.func26.trans (congrArg some (by kernel_rfl))
  t3 := Tryd.underlying3
  a3 := Tryd.isAgg3
  z3 := Tryd.sizeOf3
  v3 := Tryd.zeroValue3
  t5 := Tryd.underlying5
  a5 := Tryd.isAgg5
  z5 := Tryd.sizeOf5
  v5 := Tryd.zeroValue5
  t9 := Tryd.underlying9
  a9 := Tryd.isAgg9
  z9 := Tryd.sizeOf9
  v9 := Tryd.zeroValue9 }
open Go.RowKit Go.Lib in
/-- internal/stringslite.IndexByte (what strings.IndexByte calls): IT RETURNS 'Lib.indexByte s c'; the world is as it was. (LAID: no walk: one application.) -/
theorem Tryd.stringslite_IndexByte (s : ByteArray) (c : Int) (w : World) :
    Calls Tryd.prog 20 #[.string s, .int .u8 c] w fun e w' => e = .returned (.int .i64 (Lib.indexByte s.data.toList c.toNat.toUInt8)) ∧ w' = w := Any.stringslite_IndexByte Tryd.lays217 s c w
def Tryd.lays224_ren : Go.Shelf.Ren := ⟨fun | 224 => 36 | n => n, fun | 3 => 3 | n => n, fun | n => n⟩
theorem Tryd.lays224 : Go.Proofs.Lays.n224 Tryd.prog Tryd.lays224_ren := {
  mixed := by kernel_rfl
  f224 := Tryd.func36.trans (congrArg some (by kernel_rfl))
  t3 := Tryd.underlying3
  a3 := Tryd.isAgg3
  z3 := Tryd.sizeOf3
  v3 := Tryd.zeroValue3 }
open Go.RowKit Go.Lib in
/-- internal/bytealg.Cutover: "Cutover reports the number of failures of IndexByte we should tolerate before switching over to Index. n is the number of bytes processed so far.": on amd64: (n + 16) / 8. (LAID: no walk: one application.) -/
theorem Tryd.bytealg_Cutover (n : Int) (h0 : 0 ≤ n) (h1 : n < 4611686018427387904) (w : World) :
    Calls Tryd.prog 36 #[.int .i64 n] w fun e w' => e = .returned (.int .i64 ((n + 16) / 8)) ∧ w' = w := Any.bytealg_Cutover Tryd.lays224 n h0 h1 w
def Tryd.lays314_ren : Go.Shelf.Ren := ⟨fun | 314 => 41 | n => n, fun | 9 => 9 | 51 => 68 | 3 => 3 | 4 => 4 | 5 => 5 | 46 => 65 | n => n, fun | n => n⟩
theorem Tryd.lays314 : Go.Proofs.Lays.n314 Tryd.prog Tryd.lays314_ren := {
  mixed := by kernel_rfl
  f314 := Tryd.func41.trans (congrArg some (by kernel_rfl))
  t3 := Tryd.underlying3
  a3 := Tryd.isAgg3
  z3 := Tryd.sizeOf3
  v3 := Tryd.zeroValue3
  t4 := Tryd.underlying4
  a4 := Tryd.isAgg4
  z4 := Tryd.sizeOf4
  v4 := Tryd.zeroValue4
  t5 := Tryd.underlying5
  a5 := Tryd.isAgg5
  z5 := Tryd.sizeOf5
  v5 := Tryd.zeroValue5
  t9 := Tryd.underlying9
  a9 := Tryd.isAgg9
  z9 := Tryd.sizeOf9
  v9 := Tryd.zeroValue9
  t46 := Tryd.underlying65
  a46 := Tryd.isAgg65
  z46 := Tryd.sizeOf65
  v46 := Tryd.zeroValue65
  t51 := Tryd.underlying68
  a51 := Tryd.isAgg68
  z51 := Tryd.sizeOf68
  v51 := Tryd.zeroValue68 }
open Go.RowKit Go.Lib in
/-- hashStr: "returns the hash and the appropriate multiplicative factor for use in Rabin-Karp algorithm": THE HASH OF ALL OF sep, AND 16777619 ^ len(sep), both in uint32. (LAID: no walk: one application.) -/
theorem Tryd.bytealg_hashStr (sep : ByteArray) (hs : sep.size < 4294967281) (w : World) :
    Calls Tryd.prog 41 #[.string sep] w fun e w' => e = .returned (.tuple #[.int .u32 (RK.H sep.data.toList % 4294967296), .int .u32 (16777619 ^ sep.size % 4294967296)]) ∧ w' = w := Any.bytealg_hashStr Tryd.lays314 sep hs w
def Tryd.lays267_ren : Go.Shelf.Ren := ⟨fun | 267 => 37 | 314 => 41 | n => n, fun | 9 => 9 | 3 => 3 | 146 => 69 | 51 => 68 | 4 => 4 | 5 => 5 | 46 => 65 | n => n, fun | n => n⟩
theorem Tryd.lays267 : Go.Proofs.Lays.n267 Tryd.prog Tryd.lays267_ren := {
  mixed := by kernel_rfl
  f267 := Tryd.func37.trans (congrArg some (by kernel_rfl))
  f314 := Tryd.func41.trans (congrArg some (by kernel_rfl))
  t3 := Tryd.underlying3
  a3 := Tryd.isAgg3
  z3 := Tryd.sizeOf3
  v3 := Tryd.zeroValue3
  t4 := Tryd.underlying4
  a4 := Tryd.isAgg4
  z4 := Tryd.sizeOf4
  v4 := Tryd.zeroValue4
  t5 := Tryd.underlying5
  a5 := Tryd.isAgg5
  z5 := Tryd.sizeOf5
  v5 := Tryd.zeroValue5
  t9 := Tryd.underlying9
  a9 := Tryd.isAgg9
  z9 := Tryd.sizeOf9
  v9 := Tryd.zeroValue9
  t46 := Tryd.underlying65
  a46 := Tryd.isAgg65
  z46 := Tryd.sizeOf65
  v46 := Tryd.zeroValue65
  t51 := Tryd.underlying68
  a51 := Tryd.isAgg68
  z51 := Tryd.sizeOf68
  v51 := Tryd.zeroValue68
  t146 := Tryd.underlying69
  a146 := Tryd.isAgg69
  z146 := Tryd.sizeOf69
  v146 := Tryd.zeroValue69 }
open Go.RowKit Go.Lib in
theorem Tryd.bytealg_IndexRabinKarp (s sep : ByteArray) (h1 : 1 ≤ sep.size) (h2 : sep.size ≤ s.size) (hs : s.size < 4294967281) (w : World) :
    Calls Tryd.prog 37 #[.string s, .string sep] w fun e w' => e = .returned (.int .i64 (Lib.index s.data.toList sep.data.toList)) ∧ w' = w := Any.bytealg_IndexRabinKarp Tryd.lays267 s sep h1 h2 hs w
def Tryd.lays219_ren : Go.Shelf.Ren := ⟨fun | 219 => 29 | 217 => 20 | 225 => 35 | 224 => 36 | 267 => 37 | 266 => 26 | 314 => 41 | n => n, fun | 9 => 9 | 3 => 3 | 4 => 4 | 5 => 5 | 46 => 65 | 146 => 69 | 51 => 68 | n => n, fun | 1 => 0 | n => n⟩
theorem Tryd.lays219 : Go.Proofs.Lays.n219 Tryd.prog Tryd.lays219_ren := {
  mixed := by kernel_rfl
  f217 := Tryd.func20.trans (congrArg some (by kernel_rfl))
  f219 := Tryd.func29.trans (congrArg some (by kernel_rfl))
  f224 := Tryd.func36.trans (congrArg some (by kernel_rfl))
  f225 := Tryd.func35.trans (congrArg some (by kernel_rfl))
  f266 := Tryd.func26.trans (congrArg some (by kernel_rfl))
  f267 := Tryd.func37.trans (congrArg some (by kernel_rfl))
  f314 := Tryd.func41.trans (congrArg some (by kernel_rfl))
  t3 := Tryd.underlying3
  a3 := Tryd.isAgg3
  z3 := Tryd.sizeOf3
  v3 := Tryd.zeroValue3
  t4 := Tryd.underlying4
  a4 := Tryd.isAgg4
  z4 := Tryd.sizeOf4
  v4 := Tryd.zeroValue4
  t5 := Tryd.underlying5
  a5 := Tryd.isAgg5
  z5 := Tryd.sizeOf5
  v5 := Tryd.zeroValue5
  t9 := Tryd.underlying9
  a9 := Tryd.isAgg9
  z9 := Tryd.sizeOf9
  v9 := Tryd.zeroValue9
  t46 := Tryd.underlying65
  a46 := Tryd.isAgg65
  z46 := Tryd.sizeOf65
  v46 := Tryd.zeroValue65
  t51 := Tryd.underlying68
  a51 := Tryd.isAgg68
  z51 := Tryd.sizeOf68
  v51 := Tryd.zeroValue68
  t146 := Tryd.underlying69
  a146 := Tryd.isAgg69
  z146 := Tryd.sizeOf69
  v146 := Tryd.zeroValue69
  g1 := by kernel_rfl }
open Go.RowKit Go.Lib in
/-- internal/stringslite.Index (what strings.Index calls) AT A substr OF ONE BYTE c: IT RETURNS 'Lib.indexByte s c'; the world is as it was. (LAID: no walk: one application.) -/
theorem Tryd.stringslite_Index_one (s : ByteArray) (c : UInt8) (w : World) :
    Calls Tryd.prog 29 #[.string s, .string ⟨#[c]⟩] w fun e w' => e = .returned (.int .i64 (Lib.indexByte s.data.toList c)) ∧ w' = w := Any.stringslite_Index_one Tryd.lays219 s c w
open Go.RowKit Go.Lib in
/-- internal/stringslite.Index (what strings.Index calls) AT A substr OF WHATEVER LENGTH: IT RETURNS 'Lib.index s substr'; the world is as it was. 'm': what internal/bytealg.MaxLen holds: whatever. (LAID: no walk: one application.) -/
theorem Tryd.stringslite_Index (s sub : ByteArray) (m : Int) (w : World) (hs : s.size < 4294967281) (hm : w.cell? ⟨0, 0, none⟩ = some (.int .i64 m)) :
    Calls Tryd.prog 29 #[.string s, .string sub] w fun e w' => e = .returned (.int .i64 (Lib.index s.data.toList sub.data.toList)) ∧ w' = w := Any.stringslite_Index Tryd.lays219 s sub m w hs hm
def Tryd.lays143_ren : Go.Shelf.Ren := ⟨fun | 143 => 23 | 219 => 29 | 217 => 20 | 225 => 35 | 224 => 36 | 267 => 37 | 266 => 26 | 314 => 41 | n => n, fun | 9 => 9 | 3 => 3 | 4 => 4 | 5 => 5 | 46 => 65 | 146 => 69 | 51 => 68 | n => n, fun | 1 => 0 | n => n⟩
theorem Tryd.lays143 : Go.Proofs.Lays.n143 Tryd.prog Tryd.lays143_ren := {
  mixed := by kernel_rfl
  f143 := Tryd.func23.trans (congrArg some (by kernel_rfl))
  f217 := Tryd.func20.trans (congrArg some (by kernel_rfl))
  f219 := Tryd.func29.trans (congrArg some (by kernel_rfl))
  f224 := Tryd.func36.trans (congrArg some (by kernel_rfl))
  f225 := Tryd.func35.trans (congrArg some (by kernel_rfl))
  f266 := Tryd.func26.trans (congrArg some (by kernel_rfl))
  f267 := Tryd.func37.trans (congrArg some (by kernel_rfl))
  f314 := Tryd.func41.trans (congrArg some (by kernel_rfl))
  t3 := Tryd.underlying3
  a3 := Tryd.isAgg3
  z3 := Tryd.sizeOf3
  v3 := Tryd.zeroValue3
  t4 := Tryd.underlying4
  a4 := Tryd.isAgg4
  z4 := Tryd.sizeOf4
  v4 := Tryd.zeroValue4
  t5 := Tryd.underlying5
  a5 := Tryd.isAgg5
  z5 := Tryd.sizeOf5
  v5 := Tryd.zeroValue5
  t9 := Tryd.underlying9
  a9 := Tryd.isAgg9
  z9 := Tryd.sizeOf9
  v9 := Tryd.zeroValue9
  t46 := Tryd.underlying65
  a46 := Tryd.isAgg65
  z46 := Tryd.sizeOf65
  v46 := Tryd.zeroValue65
  t51 := Tryd.underlying68
  a51 := Tryd.isAgg68
  z51 := Tryd.sizeOf68
  v51 := Tryd.zeroValue68
  t146 := Tryd.underlying69
  a146 := Tryd.isAgg69
  z146 := Tryd.sizeOf69
  v146 := Tryd.zeroValue69
  g1 := by kernel_rfl }
open Go.RowKit Go.Lib in
/-- strings.Index: "Index returns the index of the first instance of substr in s, or -1 if substr is not present in s.": AT A substr OF ONE BYTE c: IT RETURNS 'Lib.indexByte s c'; the world is as it was. (LAID: no walk: one application.) -/
theorem Tryd.strings_Index_one (s : ByteArray) (c : UInt8) (w : World) :
    Calls Tryd.prog 23 #[.string s, .string ⟨#[c]⟩] w fun e w' => e = .returned (.int .i64 (Lib.indexByte s.data.toList c)) ∧ w' = w := Any.strings_Index_one Tryd.lays143 s c w
open Go.RowKit Go.Lib in
/-- strings.Index: "Index returns the index of the first instance of substr in s, or -1 if substr is not present in s.": IT RETURNS 'Lib.index s substr'; the world is as it was. (LAID: no walk: one application.) -/
theorem Tryd.strings_Index (s sub : ByteArray) (m : Int) (w : World) (hs : s.size < 4294967281) (hm : w.cell? ⟨0, 0, none⟩ = some (.int .i64 m)) :
    Calls Tryd.prog 23 #[.string s, .string sub] w fun e w' => e = .returned (.int .i64 (Lib.index s.data.toList sub.data.toList)) ∧ w' = w := Any.strings_Index Tryd.lays143 s sub m w hs hm
def Tryd.laysM219_ren : Go.Shelf.Ren := ⟨fun | 219 => 29 | 217 => 20 | 225 => 35 | 224 => 36 | 267 => 37 | 266 => 26 | 314 => 41 | n => n, fun | 9 => 9 | 3 => 3 | 4 => 4 | 5 => 5 | 46 => 65 | 146 => 69 | 51 => 68 | n => n, fun | 1 => 0 | n => n⟩
theorem Tryd.laysM219 : Go.Proofs.LaysM.n219 Tryd.prog Tryd.laysM219_ren := {
  mixed := by kernel_rfl
  f217 := Tryd.func20.trans (congrArg some (by kernel_rfl))
  f219 := Tryd.func29.trans (congrArg some (by kernel_rfl))
  f224 := Tryd.func36.trans (congrArg some (by kernel_rfl))
  f225 := Tryd.func35.trans (congrArg some (by kernel_rfl))
  f266 := Tryd.func26.trans (congrArg some (by kernel_rfl))
  f267 := Tryd.func37.trans (congrArg some (by kernel_rfl))
  f314 := Tryd.func41.trans (congrArg some (by kernel_rfl))
  t3 := Tryd.underlying3
  a3 := Tryd.isAgg3
  z3 := Tryd.sizeOf3
  v3 := Tryd.zeroValue3
  t4 := Tryd.underlying4
  a4 := Tryd.isAgg4
  z4 := Tryd.sizeOf4
  v4 := Tryd.zeroValue4
  t5 := Tryd.underlying5
  a5 := Tryd.isAgg5
  z5 := Tryd.sizeOf5
  v5 := Tryd.zeroValue5
  t9 := Tryd.underlying9
  a9 := Tryd.isAgg9
  z9 := Tryd.sizeOf9
  v9 := Tryd.zeroValue9
  t46 := Tryd.underlying65
  a46 := Tryd.isAgg65
  z46 := Tryd.sizeOf65
  v46 := Tryd.zeroValue65
  t51 := Tryd.underlying68
  a51 := Tryd.isAgg68
  z51 := Tryd.sizeOf68
  v51 := Tryd.zeroValue68
  t146 := Tryd.underlying69
  a146 := Tryd.isAgg69
  z146 := Tryd.sizeOf69
  v146 := Tryd.zeroValue69
  g1 := by kernel_rfl
  i3 := by kernel_rfl
  i4 := by kernel_rfl
  i5 := by kernel_rfl
  i9 := by kernel_rfl
  i46 := by kernel_rfl
  i51 := by kernel_rfl
  i146 := by kernel_rfl
  m1 := by kernel_rfl
  s1_3 := fun w h => Go.Proofs.cell_of_shapedOpen_int (zero := #[.int .i64 0]) (t := 3) h (of_decide_eq_true (by kernel_rfl)) (by kernel_rfl) rfl (by kernel_rfl) (by kernel_rfl) Tryd.underlying3 }
open Go.RowKit Go.Lib in
theorem Tryd.stringslite_Index_shaped (s sub : ByteArray) (w : World) (h : w.ShapedOpen Tryd.prog) (hs : s.size < 4294967281) :
    Calls Tryd.prog 29 #[.string s, .string sub] w fun e w' => e = .returned (.int .i64 (Lib.index s.data.toList sub.data.toList)) ∧ w' = w := Any.stringslite_Index_shaped Tryd.laysM219 s sub w h hs
def Tryd.laysM143_ren : Go.Shelf.Ren := ⟨fun | 143 => 23 | 219 => 29 | 217 => 20 | 225 => 35 | 224 => 36 | 267 => 37 | 266 => 26 | 314 => 41 | n => n, fun | 9 => 9 | 3 => 3 | 4 => 4 | 5 => 5 | 46 => 65 | 146 => 69 | 51 => 68 | n => n, fun | 1 => 0 | n => n⟩
theorem Tryd.laysM143 : Go.Proofs.LaysM.n143 Tryd.prog Tryd.laysM143_ren := {
  mixed := by kernel_rfl
  f143 := Tryd.func23.trans (congrArg some (by kernel_rfl))
  f217 := Tryd.func20.trans (congrArg some (by kernel_rfl))
  f219 := Tryd.func29.trans (congrArg some (by kernel_rfl))
  f224 := Tryd.func36.trans (congrArg some (by kernel_rfl))
  f225 := Tryd.func35.trans (congrArg some (by kernel_rfl))
  f266 := Tryd.func26.trans (congrArg some (by kernel_rfl))
  f267 := Tryd.func37.trans (congrArg some (by kernel_rfl))
  f314 := Tryd.func41.trans (congrArg some (by kernel_rfl))
  t3 := Tryd.underlying3
  a3 := Tryd.isAgg3
  z3 := Tryd.sizeOf3
  v3 := Tryd.zeroValue3
  t4 := Tryd.underlying4
  a4 := Tryd.isAgg4
  z4 := Tryd.sizeOf4
  v4 := Tryd.zeroValue4
  t5 := Tryd.underlying5
  a5 := Tryd.isAgg5
  z5 := Tryd.sizeOf5
  v5 := Tryd.zeroValue5
  t9 := Tryd.underlying9
  a9 := Tryd.isAgg9
  z9 := Tryd.sizeOf9
  v9 := Tryd.zeroValue9
  t46 := Tryd.underlying65
  a46 := Tryd.isAgg65
  z46 := Tryd.sizeOf65
  v46 := Tryd.zeroValue65
  t51 := Tryd.underlying68
  a51 := Tryd.isAgg68
  z51 := Tryd.sizeOf68
  v51 := Tryd.zeroValue68
  t146 := Tryd.underlying69
  a146 := Tryd.isAgg69
  z146 := Tryd.sizeOf69
  v146 := Tryd.zeroValue69
  g1 := by kernel_rfl
  i3 := by kernel_rfl
  i4 := by kernel_rfl
  i5 := by kernel_rfl
  i9 := by kernel_rfl
  i46 := by kernel_rfl
  i51 := by kernel_rfl
  i146 := by kernel_rfl
  m1 := by kernel_rfl
  s1_3 := fun w h => Go.Proofs.cell_of_shapedOpen_int (zero := #[.int .i64 0]) (t := 3) h (of_decide_eq_true (by kernel_rfl)) (by kernel_rfl) rfl (by kernel_rfl) (by kernel_rfl) Tryd.underlying3 }
open Go.RowKit Go.Lib in
theorem Tryd.strings_Index_shaped (s sub : ByteArray) (w : World) (h : w.ShapedOpen Tryd.prog) (hs : s.size < 4294967281) :
    Calls Tryd.prog 23 #[.string s, .string sub] w fun e w' => e = .returned (.int .i64 (Lib.index s.data.toList sub.data.toList)) ∧ w' = w := Any.strings_Index_shaped Tryd.laysM143 s sub w h hs
def Tryd.lays207_ren : Go.Shelf.Ren := ⟨fun | 207 => 28 | n => n, fun | 9 => 9 | 4 => 4 | 3 => 3 | n => n, fun | n => n⟩
theorem Tryd.lays207 : Go.Proofs.Lays.n207 Tryd.prog Tryd.lays207_ren := {
  mixed := by kernel_rfl
  f207 := Tryd.func28.trans (congrArg some (by kernel_rfl))
  t3 := Tryd.underlying3
  a3 := Tryd.isAgg3
  z3 := Tryd.sizeOf3
  v3 := Tryd.zeroValue3
  t4 := Tryd.underlying4
  a4 := Tryd.isAgg4
  z4 := Tryd.sizeOf4
  v4 := Tryd.zeroValue4
  t9 := Tryd.underlying9
  a9 := Tryd.isAgg9
  z9 := Tryd.sizeOf9
  v9 := Tryd.zeroValue9 }
open Go.RowKit Go.Lib in
/-- internal/stringslite.HasSuffix (what strings.HasSuffix calls). (LAID: no walk: one application.) -/
theorem Tryd.stringslite_HasSuffix (s p : ByteArray) (w : World) (hs : s.size ≤ 9223372036854775807) :
    Calls Tryd.prog 28 #[.string s, .string p] w fun e w' => e = .returned (.bool (Lib.hasSuffix s.data.toList p.data.toList)) ∧ w' = w := Any.stringslite_HasSuffix Tryd.lays207 s p w hs
def Tryd.lays100_ren : Go.Shelf.Ren := ⟨fun | 100 => 22 | 207 => 28 | n => n, fun | 9 => 9 | 4 => 4 | 3 => 3 | n => n, fun | n => n⟩
theorem Tryd.lays100 : Go.Proofs.Lays.n100 Tryd.prog Tryd.lays100_ren := {
  mixed := by kernel_rfl
  f100 := Tryd.func22.trans (congrArg some (by kernel_rfl))
  f207 := Tryd.func28.trans (congrArg some (by kernel_rfl))
  t3 := Tryd.underlying3
  a3 := Tryd.isAgg3
  z3 := Tryd.sizeOf3
  v3 := Tryd.zeroValue3
  t4 := Tryd.underlying4
  a4 := Tryd.isAgg4
  z4 := Tryd.sizeOf4
  v4 := Tryd.zeroValue4
  t9 := Tryd.underlying9
  a9 := Tryd.isAgg9
  z9 := Tryd.sizeOf9
  v9 := Tryd.zeroValue9 }
open Go.RowKit Go.Lib in
/-- strings.HasSuffix: "HasSuffix reports whether the string s ends with suffix.": IT RETURNS 'Lib.hasSuffix s suffix'; the world is as it was. ('hs': no Go string is longer: a caller has it of every string that it was handed.) (LAID: no walk: one application.) -/
theorem Tryd.strings_HasSuffix (s p : ByteArray) (w : World) (hs : s.size ≤ 9223372036854775807) :
    Calls Tryd.prog 22 #[.string s, .string p] w fun e w' => e = .returned (.bool (Lib.hasSuffix s.data.toList p.data.toList)) ∧ w' = w := Any.strings_HasSuffix Tryd.lays100 s p w hs
def Tryd.lays209_ren : Go.Shelf.Ren := ⟨fun | 209 => 25 | 207 => 28 | n => n, fun | 9 => 9 | 4 => 4 | 3 => 3 | n => n, fun | n => n⟩
theorem Tryd.lays209 : Go.Proofs.Lays.n209 Tryd.prog Tryd.lays209_ren := {
  mixed := by kernel_rfl
  f207 := Tryd.func28.trans (congrArg some (by kernel_rfl))
  f209 := Tryd.func25.trans (congrArg some (by kernel_rfl))
  t3 := Tryd.underlying3
  a3 := Tryd.isAgg3
  z3 := Tryd.sizeOf3
  v3 := Tryd.zeroValue3
  t4 := Tryd.underlying4
  a4 := Tryd.isAgg4
  z4 := Tryd.sizeOf4
  v4 := Tryd.zeroValue4
  t9 := Tryd.underlying9
  a9 := Tryd.isAgg9
  z9 := Tryd.sizeOf9
  v9 := Tryd.zeroValue9 }
open Go.RowKit Go.Lib in
/-- internal/stringslite.TrimSuffix (what strings.TrimSuffix calls). (LAID: no walk: one application.) -/
theorem Tryd.stringslite_TrimSuffix (s p : ByteArray) (w : World) (hs : s.size ≤ 9223372036854775807) :
    Calls Tryd.prog 25 #[.string s, .string p] w fun e w' => e = .returned (.string ⟨(Lib.trimSuffix s.data.toList p.data.toList).toArray⟩) ∧ w' = w := Any.stringslite_TrimSuffix Tryd.lays209 s p w hs
def Tryd.lays102_ren : Go.Shelf.Ren := ⟨fun | 102 => 18 | 209 => 25 | 207 => 28 | n => n, fun | 9 => 9 | 4 => 4 | 3 => 3 | n => n, fun | n => n⟩
theorem Tryd.lays102 : Go.Proofs.Lays.n102 Tryd.prog Tryd.lays102_ren := {
  mixed := by kernel_rfl
  f102 := Tryd.func18.trans (congrArg some (by kernel_rfl))
  f207 := Tryd.func28.trans (congrArg some (by kernel_rfl))
  f209 := Tryd.func25.trans (congrArg some (by kernel_rfl))
  t3 := Tryd.underlying3
  a3 := Tryd.isAgg3
  z3 := Tryd.sizeOf3
  v3 := Tryd.zeroValue3
  t4 := Tryd.underlying4
  a4 := Tryd.isAgg4
  z4 := Tryd.sizeOf4
  v4 := Tryd.zeroValue4
  t9 := Tryd.underlying9
  a9 := Tryd.isAgg9
  z9 := Tryd.sizeOf9
  v9 := Tryd.zeroValue9 }
open Go.RowKit Go.Lib in
/-- strings.TrimSuffix: "TrimSuffix returns s without the provided trailing suffix string. If s doesn't end with suffix, s is returned unchanged.": IT RETURNS 'Lib.trimSuffix s suffix'; the world is as it was. (LAID: no walk: one application.) -/
theorem Tryd.strings_TrimSuffix (s p : ByteArray) (w : World) (hs : s.size ≤ 9223372036854775807) :
    Calls Tryd.prog 18 #[.string s, .string p] w fun e w' => e = .returned (.string ⟨(Lib.trimSuffix s.data.toList p.data.toList).toArray⟩) ∧ w' = w := Any.strings_TrimSuffix Tryd.lays102 s p w hs
def Tryd.lays152_ren : Go.Shelf.Ren := ⟨fun | 152 => 30 | 137 => 15 | 119 => 38 | 224 => 36 | 225 => 35 | 217 => 20 | 266 => 26 | n => n, fun | 9 => 9 | 21 => 21 | 3 => 3 | 4 => 4 | 5 => 5 | 0 => 0 | 46 => 65 | n => n, fun | n => n⟩
theorem Tryd.lays152 : Go.Proofs.Lays.n152 Tryd.prog Tryd.lays152_ren := {
  mixed := by kernel_rfl
  f119 := Tryd.func38.trans (congrArg some (by kernel_rfl))
  f137 := Tryd.func15.trans (congrArg some (by kernel_rfl))
  f152 := Tryd.func30.trans (congrArg some (by kernel_rfl))
  f217 := Tryd.func20.trans (congrArg some (by kernel_rfl))
  f224 := Tryd.func36.trans (congrArg some (by kernel_rfl))
  f225 := Tryd.func35.trans (congrArg some (by kernel_rfl))
  f266 := Tryd.func26.trans (congrArg some (by kernel_rfl))
  t0 := Tryd.underlying0
  a0 := Tryd.isAgg0
  z0 := Tryd.sizeOf0
  v0 := Tryd.zeroValue0
  t3 := Tryd.underlying3
  a3 := Tryd.isAgg3
  z3 := Tryd.sizeOf3
  v3 := Tryd.zeroValue3
  t4 := Tryd.underlying4
  a4 := Tryd.isAgg4
  z4 := Tryd.sizeOf4
  v4 := Tryd.zeroValue4
  t5 := Tryd.underlying5
  a5 := Tryd.isAgg5
  z5 := Tryd.sizeOf5
  v5 := Tryd.zeroValue5
  t9 := Tryd.underlying9
  a9 := Tryd.isAgg9
  z9 := Tryd.sizeOf9
  v9 := Tryd.zeroValue9
  t21 := Tryd.underlying21
  a21 := Tryd.isAgg21
  z21 := Tryd.sizeOf21
  v21 := Tryd.zeroValue21
  t46 := Tryd.underlying65
  a46 := Tryd.isAgg65
  z46 := Tryd.sizeOf65
  v46 := Tryd.zeroValue65 }
open Go.RowKit Go.Lib in
theorem Tryd.strings_IndexRune_ascii (s : ByteArray) (r : Int) (w : World) (h0 : 0 ≤ r) (h1 : r < 128) :
    Calls Tryd.prog 30 #[.string s, .int .i32 r] w fun e w' => e = .returned (.int .i64 (Lib.indexByte s.data.toList r.toNat.toUInt8)) ∧ w' = w := Any.strings_IndexRune_ascii Tryd.lays152 s r w h0 h1
def Tryd.lays226_ren : Go.Shelf.Ren := ⟨fun | 226 => 31 | n => n, fun | 3 => 3 | 4 => 4 | n => n, fun | n => n⟩
theorem Tryd.lays226 : Go.Proofs.Lays.n226 Tryd.prog Tryd.lays226_ren := {
  mixed := by kernel_rfl
  f226 := Tryd.func31.trans (congrArg some (by kernel_rfl))
  t3 := Tryd.underlying3
  a3 := Tryd.isAgg3
  z3 := Tryd.sizeOf3
  v3 := Tryd.zeroValue3
  t4 := Tryd.underlying4
  a4 := Tryd.isAgg4
  z4 := Tryd.sizeOf4
  v4 := Tryd.zeroValue4 }
open Go.RowKit Go.Lib in
theorem Tryd.strings_shouldUseASCIISet (n : Int) (w : World) :
    Calls Tryd.prog 31 #[.int .i64 n] w fun e w' => e = .returned (.bool (decide (8 < n))) ∧ w' = w := Any.strings_shouldUseASCIISet Tryd.lays226 n w
def Tryd.lays227_ren : Go.Shelf.Ren := ⟨fun | 227 => 32 | n => n, fun | 9 => 9 | 116 => 58 | 4 => 4 | 0 => 0 | 3 => 3 | 5 => 5 | n => n, fun | n => n⟩
theorem Tryd.lays227 : Go.Proofs.Lays.n227 Tryd.prog Tryd.lays227_ren := {
  mixed := by kernel_rfl
  f227 := Tryd.func32.trans (congrArg some (by kernel_rfl))
  t0 := Tryd.underlying0
  a0 := Tryd.isAgg0
  z0 := Tryd.sizeOf0
  v0 := Tryd.zeroValue0
  t3 := Tryd.underlying3
  a3 := Tryd.isAgg3
  z3 := Tryd.sizeOf3
  v3 := Tryd.zeroValue3
  t4 := Tryd.underlying4
  a4 := Tryd.isAgg4
  z4 := Tryd.sizeOf4
  v4 := Tryd.zeroValue4
  t5 := Tryd.underlying5
  a5 := Tryd.isAgg5
  z5 := Tryd.sizeOf5
  v5 := Tryd.zeroValue5
  t9 := Tryd.underlying9
  a9 := Tryd.isAgg9
  z9 := Tryd.sizeOf9
  v9 := Tryd.zeroValue9
  t116 := Tryd.underlying58
  a116 := Tryd.isAgg58
  z116 := Tryd.sizeOf58 }
open Go.RowKit Go.Lib in
theorem Tryd.strings_makeASCIISet (hv116 : ∀ w, (zeroValue 58).run Tryd.prog w = .ok (.agg (Array.replicate 256 (.bool false))) w) (chars : ByteArray) (w : World) (hs : chars.size < 4294967281) (hascii : ∀ (j : Nat) b, chars.data.toList[j]? = some b → b.toNat < 128) :
    Calls Tryd.prog 32 #[.string chars] w fun e w' => e = .returned (.tuple #[.agg (Lib.setCells chars.data.toList), .bool true]) ∧ w' = w.alloc (.cells (Lib.setCells chars.data.toList) 58) := Any.strings_makeASCIISet Tryd.lays227 hv116 (by kernel_rfl) chars w hs hascii
def Tryd.lays228_ren : Go.Shelf.Ren := ⟨fun | 228 => 33 | n => n, fun | 124 => 67 | 5 => 5 | 4 => 4 | 0 => 0 | 116 => 58 | n => n, fun | n => n⟩
theorem Tryd.lays228 : Go.Proofs.Lays.n228 Tryd.prog Tryd.lays228_ren := {
  mixed := by kernel_rfl
  f228 := Tryd.func33.trans (congrArg some (by kernel_rfl))
  t0 := Tryd.underlying0
  a0 := Tryd.isAgg0
  z0 := Tryd.sizeOf0
  v0 := Tryd.zeroValue0
  t4 := Tryd.underlying4
  a4 := Tryd.isAgg4
  z4 := Tryd.sizeOf4
  v4 := Tryd.zeroValue4
  t5 := Tryd.underlying5
  a5 := Tryd.isAgg5
  z5 := Tryd.sizeOf5
  v5 := Tryd.zeroValue5
  t116 := Tryd.underlying58
  a116 := Tryd.isAgg58
  z116 := Tryd.sizeOf58
  t124 := Tryd.underlying67
  a124 := Tryd.isAgg67
  z124 := Tryd.sizeOf67
  v124 := Tryd.zeroValue67 }
open Go.RowKit Go.Lib in
/-- '(as *asciiSet) contains(c)': 'as[c]': the set lies at block b, whole. (LAID: no walk: one application.) -/
theorem Tryd.asciiSet_contains (b : Nat) (x : UInt8) (v : Bool) (w : World) (hc : w.cell? ⟨b, x.toNat, none⟩ = some (.bool v)) :
    Calls Tryd.prog 33 #[.pointer (some ⟨b, 0, none⟩), .int .u8 x.toNat] w fun e w' => e = .returned (.bool v) ∧ w' = w := Any.asciiSet_contains Tryd.lays228 b x v w hc
def Tryd.lays260_ren : Go.Shelf.Ren := ⟨fun | 260 => 42 | n => n, fun | 9 => 9 | 21 => 21 | 3 => 3 | 4 => 4 | 5 => 5 | 119 => 71 | 0 => 0 | 46 => 65 | 139 => 74 | 138 => 73 | n => n, fun | 3 => 1 | 4 => 2 | n => n⟩
theorem Tryd.lays260 : Go.Proofs.Lays.n260 Tryd.prog Tryd.lays260_ren := {
  mixed := by kernel_rfl
  f260 := Tryd.func42.trans (congrArg some (by kernel_rfl))
  t0 := Tryd.underlying0
  a0 := Tryd.isAgg0
  z0 := Tryd.sizeOf0
  v0 := Tryd.zeroValue0
  t3 := Tryd.underlying3
  a3 := Tryd.isAgg3
  z3 := Tryd.sizeOf3
  v3 := Tryd.zeroValue3
  t4 := Tryd.underlying4
  a4 := Tryd.isAgg4
  z4 := Tryd.sizeOf4
  v4 := Tryd.zeroValue4
  t5 := Tryd.underlying5
  a5 := Tryd.isAgg5
  z5 := Tryd.sizeOf5
  v5 := Tryd.zeroValue5
  t9 := Tryd.underlying9
  a9 := Tryd.isAgg9
  z9 := Tryd.sizeOf9
  v9 := Tryd.zeroValue9
  t21 := Tryd.underlying21
  a21 := Tryd.isAgg21
  z21 := Tryd.sizeOf21
  v21 := Tryd.zeroValue21
  t46 := Tryd.underlying65
  a46 := Tryd.isAgg65
  z46 := Tryd.sizeOf65
  v46 := Tryd.zeroValue65
  t119 := Tryd.underlying71
  a119 := Tryd.isAgg71
  z119 := Tryd.sizeOf71
  t138 := Tryd.underlying73
  a138 := Tryd.isAgg73
  z138 := Tryd.sizeOf73
  v138 := Tryd.zeroValue73
  t139 := Tryd.underlying74
  a139 := Tryd.isAgg74
  z139 := Tryd.sizeOf74
  v139 := Tryd.zeroValue74
  g3 := by kernel_rfl
  g4 := by kernel_rfl }
open Go.RowKit Go.Lib in
theorem Tryd.utf8_decodeRuneInStringSlow (s : ByteArray) (w : World) (hT : Lib.Utf8Tabs 1 2 w) :
    Calls Tryd.prog 42 #[.string s] w fun e w' => e = .returned (.tuple #[.int .i32 (Lib.decodeGo s).1, .int .i64 (Lib.decodeGo s).2]) ∧ Below w.heap.size w w' := Any.utf8_decodeRuneInStringSlow Tryd.lays260 s w hT
def Tryd.lays197_ren : Go.Shelf.Ren := ⟨fun | 197 => 40 | 260 => 42 | n => n, fun | 9 => 9 | 21 => 21 | 3 => 3 | 4 => 4 | 5 => 5 | 105 => 62 | 119 => 71 | 0 => 0 | 46 => 65 | 139 => 74 | 138 => 73 | n => n, fun | 3 => 1 | 4 => 2 | n => n⟩
theorem Tryd.lays197 : Go.Proofs.Lays.n197 Tryd.prog Tryd.lays197_ren := {
  mixed := by kernel_rfl
  f197 := Tryd.func40.trans (congrArg some (by kernel_rfl))
  f260 := Tryd.func42.trans (congrArg some (by kernel_rfl))
  t0 := Tryd.underlying0
  a0 := Tryd.isAgg0
  z0 := Tryd.sizeOf0
  v0 := Tryd.zeroValue0
  t3 := Tryd.underlying3
  a3 := Tryd.isAgg3
  z3 := Tryd.sizeOf3
  v3 := Tryd.zeroValue3
  t4 := Tryd.underlying4
  a4 := Tryd.isAgg4
  z4 := Tryd.sizeOf4
  v4 := Tryd.zeroValue4
  t5 := Tryd.underlying5
  a5 := Tryd.isAgg5
  z5 := Tryd.sizeOf5
  v5 := Tryd.zeroValue5
  t9 := Tryd.underlying9
  a9 := Tryd.isAgg9
  z9 := Tryd.sizeOf9
  v9 := Tryd.zeroValue9
  t21 := Tryd.underlying21
  a21 := Tryd.isAgg21
  z21 := Tryd.sizeOf21
  v21 := Tryd.zeroValue21
  t46 := Tryd.underlying65
  a46 := Tryd.isAgg65
  z46 := Tryd.sizeOf65
  v46 := Tryd.zeroValue65
  t105 := Tryd.underlying62
  a105 := Tryd.isAgg62
  z105 := Tryd.sizeOf62
  v105 := Tryd.zeroValue62
  t119 := Tryd.underlying71
  a119 := Tryd.isAgg71
  z119 := Tryd.sizeOf71
  t138 := Tryd.underlying73
  a138 := Tryd.isAgg73
  z138 := Tryd.sizeOf73
  v138 := Tryd.zeroValue73
  t139 := Tryd.underlying74
  a139 := Tryd.isAgg74
  z139 := Tryd.sizeOf74
  v139 := Tryd.zeroValue74
  g3 := by kernel_rfl
  g4 := by kernel_rfl }
open Go.RowKit Go.Lib in
/-- **unicode/utf8.DecodeRuneInString AT EVERY STRING.** (LAID: no walk: one application.) -/
theorem Tryd.utf8_DecodeRuneInString (s : ByteArray) (w : World) (hT : Lib.Utf8Tabs 1 2 w) :
    Calls Tryd.prog 40 #[.string s] w fun e w' => e = .returned (.tuple #[.int .i32 (Lib.decodeGo s).1, .int .i64 (Lib.decodeGo s).2]) ∧ Below w.heap.size w w' := Any.utf8_DecodeRuneInString Tryd.lays197 s w hT
def Tryd.lays271_ren : Go.Shelf.Ren := ⟨fun | 271 => 34 | 120 => 39 | 197 => 40 | 260 => 42 | n => n, fun | 9 => 9 | 21 => 21 | 3 => 3 | 4 => 4 | 5 => 5 | 105 => 62 | 119 => 71 | 0 => 0 | 46 => 65 | 139 => 74 | 138 => 73 | n => n, fun | 3 => 1 | 4 => 2 | n => n⟩
theorem Tryd.lays271 : Go.Proofs.Lays.n271 Tryd.prog Tryd.lays271_ren := {
  mixed := by kernel_rfl
  f120 := Tryd.func39.trans (congrArg some (by kernel_rfl))
  f197 := Tryd.func40.trans (congrArg some (by kernel_rfl))
  f260 := Tryd.func42.trans (congrArg some (by kernel_rfl))
  f271 := Tryd.func34.trans (congrArg some (by kernel_rfl))
  t0 := Tryd.underlying0
  a0 := Tryd.isAgg0
  z0 := Tryd.sizeOf0
  v0 := Tryd.zeroValue0
  t3 := Tryd.underlying3
  a3 := Tryd.isAgg3
  z3 := Tryd.sizeOf3
  v3 := Tryd.zeroValue3
  t4 := Tryd.underlying4
  a4 := Tryd.isAgg4
  z4 := Tryd.sizeOf4
  v4 := Tryd.zeroValue4
  t5 := Tryd.underlying5
  a5 := Tryd.isAgg5
  z5 := Tryd.sizeOf5
  v5 := Tryd.zeroValue5
  t9 := Tryd.underlying9
  a9 := Tryd.isAgg9
  z9 := Tryd.sizeOf9
  v9 := Tryd.zeroValue9
  t21 := Tryd.underlying21
  a21 := Tryd.isAgg21
  z21 := Tryd.sizeOf21
  v21 := Tryd.zeroValue21
  t46 := Tryd.underlying65
  a46 := Tryd.isAgg65
  z46 := Tryd.sizeOf65
  v46 := Tryd.zeroValue65
  t105 := Tryd.underlying62
  a105 := Tryd.isAgg62
  z105 := Tryd.sizeOf62
  v105 := Tryd.zeroValue62
  t119 := Tryd.underlying71
  a119 := Tryd.isAgg71
  z119 := Tryd.sizeOf71
  t138 := Tryd.underlying73
  a138 := Tryd.isAgg73
  z138 := Tryd.sizeOf73
  v138 := Tryd.zeroValue73
  t139 := Tryd.underlying74
  a139 := Tryd.isAgg74
  z139 := Tryd.sizeOf74
  v139 := Tryd.zeroValue74
  g3 := by kernel_rfl
  g4 := by kernel_rfl }
open Go.RowKit Go.Lib in
/-- **unicode/utf8.DecodeLastRuneInString AT EVERY STRING.** (LAID: no walk: one application.) -/
theorem Tryd.utf8_DecodeLastRuneInString (s : ByteArray) (w : World) (hs : s.size ≤ 9223372036854775807) (hT : Lib.Utf8Tabs 1 2 w) :
    Calls Tryd.prog 34 #[.string s] w fun e w' => e = .returned (.tuple #[.int .i32 (Lib.decodeLastL s.data.toList).1, .int .i64 (Lib.decodeLastL s.data.toList).2]) ∧ Below w.heap.size w w' := Any.utf8_DecodeLastRuneInString Tryd.lays271 s w hs hT
end Go.Proofs
