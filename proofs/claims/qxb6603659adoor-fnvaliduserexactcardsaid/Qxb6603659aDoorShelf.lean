/-
  DERIVED: THE SHELF's CONTRACTS AT THIS DUMP, IN PLAIN WORDS (tools/lay-plain.mjs out of 'TrydShelf.lean', which tools/lay-shelf.mjs wrote): THE SAME DECLARATIONS UNDER THE SAME NAMES: 'import', 'namespace', 'open', 'def', 'theorem' AND NOTHING ELSE: no command of the shelf's: FOR A HAND-IN. Each laying: the table of numbers ('.._ren') and one theorem, a field a fact of the dump's own or the kernel's comparison; each contract: ONE APPLICATION.
-/
import Derived.Shelf.Small.Utf8
import Derived.Shelf.Small.Strs
import Derived.Shelf.Strings.Search1
import Derived.Shelf.Strings.Search2
import Derived.Shelf.Strings.Cut
import Derived.Shelf.LaysM
import Derived.Shelf.Strings.Shaped
import Derived.Shelf.Unicode.Latin
import Derived.Shelf.Strings.Runes
import Derived.Shelf.Unicode.Is16White
import Derived.Shelf.Unicode.IsSpaceAny
import Derived.Shelf.Unicode.Is16WhiteD
import Derived.Shelf.Unicode.IsSpaceAnyD
import Derived.Shelf.Unicode.Is16Any
import Derived.Shelf.Unicode.Is32Any
import Derived.Shelf.Unicode.ExclAny
import Derived.Ground.GgnProg
import Derived.Shelf.Unicode.PredsGn
import Derived.Shelf.Unicode.ValidAny
import Derived.Test.Qxb6603659aDoorProg
namespace Go.Proofs
open Go.Shelf
def Tryd.lays119_ren : Go.Shelf.Ren := ⟨fun | 119 => 32 | n => n, fun | 21 => 21 | 4 => 4 | n => n, fun | n => n⟩
theorem Tryd.lays119 : Go.Proofs.Lays.n119 Tryd.prog Tryd.lays119_ren := {
  mixed := by kernel_rfl
  f119 := Tryd.func32.trans (congrArg some (by kernel_rfl))
  t4 := Tryd.underlying4
  a4 := Tryd.isAgg4
  z4 := Tryd.sizeOf4
  v4 := Tryd.zeroValue4
  t21 := Tryd.underlying21
  a21 := Tryd.isAgg21
  z21 := Tryd.sizeOf21
  v21 := Tryd.zeroValue21 }
/-- utf8.ValidRune: "ValidRune reports whether r can be legally encoded as UTF-8. Code points that are out of range or a surrogate half are illegal.": IT RETURNS 'Lib.validRune r'; the world is as it was. (LAID: no walk: one application.) -/
theorem Tryd.utf8_ValidRune (r : Int) (w : World) :
    Calls Tryd.prog 32 #[.int .i32 r] w fun e w' => e = .returned (.bool (Lib.validRune r)) ∧ w' = w := Any.utf8_ValidRune Tryd.lays119 r w
def Tryd.lays137_ren : Go.Shelf.Ren := ⟨fun | 137 => 31 | 217 => 25 | 266 => 33 | n => n, fun | 9 => 9 | 5 => 5 | 3 => 3 | n => n, fun | n => n⟩
theorem Tryd.lays137 : Go.Proofs.Lays.n137 Tryd.prog Tryd.lays137_ren := {
  mixed := by kernel_rfl
  f137 := Tryd.func31.trans (congrArg some (by kernel_rfl))
  f217 := Tryd.func25.trans (congrArg some (by kernel_rfl))
  f266 := Tryd.func33.trans (congrArg some (by kernel_rfl))
  t3 := Tryd.underlying3
  a3 := Tryd.isAgg3
  z3 := Tryd.sizeOf3
  v3 := Tryd.zeroValue3
  t5 := Tryd.underlying5
  a5 := Tryd.isAgg5
  z5 := Tryd.sizeOf5
  v5 := Tryd.zeroValue5
  t9 := Tryd.underlying9
  a9 := Tryd.isAgg9
  z9 := Tryd.sizeOf9
  v9 := Tryd.zeroValue9 }
open Go.RowKit in
/-- strings.IndexByte: "IndexByte returns the index of the first instance of c in s, or -1 if c is not present in s.": IT RETURNS 'Lib.indexByte s c'; the world is as it was. (LAID: no walk: one application.) -/
theorem Tryd.strings_IndexByte (s : ByteArray) (c : Int) (w : World) :
    Calls Tryd.prog 31 #[.string s, .int .u8 c] w fun e w' => e = .returned (.int .i64 (Lib.indexByte s.data.toList c.toNat.toUInt8)) ∧ w' = w := Any.strings_IndexByte Tryd.lays137 s c w
def Tryd.lays217_ren : Go.Shelf.Ren := ⟨fun | 217 => 25 | 266 => 33 | n => n, fun | 9 => 9 | 5 => 5 | 3 => 3 | n => n, fun | n => n⟩
theorem Tryd.lays217 : Go.Proofs.Lays.n217 Tryd.prog Tryd.lays217_ren := {
  mixed := by kernel_rfl
  f217 := Tryd.func25.trans (congrArg some (by kernel_rfl))
  f266 := Tryd.func33.trans (congrArg some (by kernel_rfl))
  t3 := Tryd.underlying3
  a3 := Tryd.isAgg3
  z3 := Tryd.sizeOf3
  v3 := Tryd.zeroValue3
  t5 := Tryd.underlying5
  a5 := Tryd.isAgg5
  z5 := Tryd.sizeOf5
  v5 := Tryd.zeroValue5
  t9 := Tryd.underlying9
  a9 := Tryd.isAgg9
  z9 := Tryd.sizeOf9
  v9 := Tryd.zeroValue9 }
open Go.RowKit Go.Lib in
/-- internal/stringslite.IndexByte (what strings.IndexByte calls): IT RETURNS 'Lib.indexByte s c'; the world is as it was. (LAID: no walk: one application.) -/
theorem Tryd.stringslite_IndexByte (s : ByteArray) (c : Int) (w : World) :
    Calls Tryd.prog 25 #[.string s, .int .u8 c] w fun e w' => e = .returned (.int .i64 (Lib.indexByte s.data.toList c.toNat.toUInt8)) ∧ w' = w := Any.stringslite_IndexByte Tryd.lays217 s c w
def Tryd.lays224_ren : Go.Shelf.Ren := ⟨fun | 224 => 27 | n => n, fun | 3 => 3 | n => n, fun | n => n⟩
theorem Tryd.lays224 : Go.Proofs.Lays.n224 Tryd.prog Tryd.lays224_ren := {
  mixed := by kernel_rfl
  f224 := Tryd.func27.trans (congrArg some (by kernel_rfl))
  t3 := Tryd.underlying3
  a3 := Tryd.isAgg3
  z3 := Tryd.sizeOf3
  v3 := Tryd.zeroValue3 }
open Go.RowKit Go.Lib in
/-- internal/bytealg.Cutover: "Cutover reports the number of failures of IndexByte we should tolerate before switching over to Index. n is the number of bytes processed so far.": on amd64: (n + 16) / 8. (LAID: no walk: one application.) -/
theorem Tryd.bytealg_Cutover (n : Int) (h0 : 0 ≤ n) (h1 : n < 4611686018427387904) (w : World) :
    Calls Tryd.prog 27 #[.int .i64 n] w fun e w' => e = .returned (.int .i64 ((n + 16) / 8)) ∧ w' = w := Any.bytealg_Cutover Tryd.lays224 n h0 h1 w
def Tryd.lays314_ren : Go.Shelf.Ren := ⟨fun | 314 => 34 | n => n, fun | 9 => 9 | 51 => 37 | 3 => 3 | 4 => 4 | 5 => 5 | 46 => 29 | n => n, fun | n => n⟩
theorem Tryd.lays314 : Go.Proofs.Lays.n314 Tryd.prog Tryd.lays314_ren := {
  mixed := by kernel_rfl
  f314 := Tryd.func34.trans (congrArg some (by kernel_rfl))
  t3 := Tryd.underlying3
  a3 := Tryd.isAgg3
  z3 := Tryd.sizeOf3
  v3 := Tryd.zeroValue3
  t4 := Tryd.underlying4
  a4 := Tryd.isAgg4
  z4 := Tryd.sizeOf4
  v4 := Tryd.zeroValue4
  t5 := Tryd.underlying5
  a5 := Tryd.isAgg5
  z5 := Tryd.sizeOf5
  v5 := Tryd.zeroValue5
  t9 := Tryd.underlying9
  a9 := Tryd.isAgg9
  z9 := Tryd.sizeOf9
  v9 := Tryd.zeroValue9
  t46 := Tryd.underlying29
  a46 := Tryd.isAgg29
  z46 := Tryd.sizeOf29
  v46 := Tryd.zeroValue29
  t51 := Tryd.underlying37
  a51 := Tryd.isAgg37
  z51 := Tryd.sizeOf37
  v51 := Tryd.zeroValue37 }
open Go.RowKit Go.Lib in
/-- hashStr: "returns the hash and the appropriate multiplicative factor for use in Rabin-Karp algorithm": THE HASH OF ALL OF sep, AND 16777619 ^ len(sep), both in uint32. (LAID: no walk: one application.) -/
theorem Tryd.bytealg_hashStr (sep : ByteArray) (hs : sep.size < 4294967281) (w : World) :
    Calls Tryd.prog 34 #[.string sep] w fun e w' => e = .returned (.tuple #[.int .u32 (RK.H sep.data.toList % 4294967296), .int .u32 (16777619 ^ sep.size % 4294967296)]) ∧ w' = w := Any.bytealg_hashStr Tryd.lays314 sep hs w
def Tryd.lays267_ren : Go.Shelf.Ren := ⟨fun | 267 => 28 | 314 => 34 | n => n, fun | 9 => 9 | 3 => 3 | 146 => 55 | 51 => 37 | 4 => 4 | 5 => 5 | 46 => 29 | n => n, fun | n => n⟩
theorem Tryd.lays267 : Go.Proofs.Lays.n267 Tryd.prog Tryd.lays267_ren := {
  mixed := by kernel_rfl
  f267 := Tryd.func28.trans (congrArg some (by kernel_rfl))
  f314 := Tryd.func34.trans (congrArg some (by kernel_rfl))
  t3 := Tryd.underlying3
  a3 := Tryd.isAgg3
  z3 := Tryd.sizeOf3
  v3 := Tryd.zeroValue3
  t4 := Tryd.underlying4
  a4 := Tryd.isAgg4
  z4 := Tryd.sizeOf4
  v4 := Tryd.zeroValue4
  t5 := Tryd.underlying5
  a5 := Tryd.isAgg5
  z5 := Tryd.sizeOf5
  v5 := Tryd.zeroValue5
  t9 := Tryd.underlying9
  a9 := Tryd.isAgg9
  z9 := Tryd.sizeOf9
  v9 := Tryd.zeroValue9
  t46 := Tryd.underlying29
  a46 := Tryd.isAgg29
  z46 := Tryd.sizeOf29
  v46 := Tryd.zeroValue29
  t51 := Tryd.underlying37
  a51 := Tryd.isAgg37
  z51 := Tryd.sizeOf37
  v51 := Tryd.zeroValue37
  t146 := Tryd.underlying55
  a146 := Tryd.isAgg55
  z146 := Tryd.sizeOf55
  v146 := Tryd.zeroValue55 }
open Go.RowKit Go.Lib in
theorem Tryd.bytealg_IndexRabinKarp (s sep : ByteArray) (h1 : 1 ≤ sep.size) (h2 : sep.size ≤ s.size) (hs : s.size < 4294967281) (w : World) :
    Calls Tryd.prog 28 #[.string s, .string sep] w fun e w' => e = .returned (.int .i64 (Lib.index s.data.toList sep.data.toList)) ∧ w' = w := Any.bytealg_IndexRabinKarp Tryd.lays267 s sep h1 h2 hs w
def Tryd.lays219_ren : Go.Shelf.Ren := ⟨fun | 219 => 21 | 217 => 25 | 225 => 26 | 224 => 27 | 267 => 28 | 266 => 33 | 314 => 34 | n => n, fun | 9 => 9 | 3 => 3 | 4 => 4 | 5 => 5 | 46 => 29 | 146 => 55 | 51 => 37 | n => n, fun | 1 => 4 | n => n⟩
theorem Tryd.lays219 : Go.Proofs.Lays.n219 Tryd.prog Tryd.lays219_ren := {
  mixed := by kernel_rfl
  f217 := Tryd.func25.trans (congrArg some (by kernel_rfl))
  f219 := Tryd.func21.trans (congrArg some (by kernel_rfl))
  f224 := Tryd.func27.trans (congrArg some (by kernel_rfl))
  f225 := Tryd.func26.trans (congrArg some (by kernel_rfl))
  f266 := Tryd.func33.trans (congrArg some (by kernel_rfl))
  f267 := Tryd.func28.trans (congrArg some (by kernel_rfl))
  f314 := Tryd.func34.trans (congrArg some (by kernel_rfl))
  t3 := Tryd.underlying3
  a3 := Tryd.isAgg3
  z3 := Tryd.sizeOf3
  v3 := Tryd.zeroValue3
  t4 := Tryd.underlying4
  a4 := Tryd.isAgg4
  z4 := Tryd.sizeOf4
  v4 := Tryd.zeroValue4
  t5 := Tryd.underlying5
  a5 := Tryd.isAgg5
  z5 := Tryd.sizeOf5
  v5 := Tryd.zeroValue5
  t9 := Tryd.underlying9
  a9 := Tryd.isAgg9
  z9 := Tryd.sizeOf9
  v9 := Tryd.zeroValue9
  t46 := Tryd.underlying29
  a46 := Tryd.isAgg29
  z46 := Tryd.sizeOf29
  v46 := Tryd.zeroValue29
  t51 := Tryd.underlying37
  a51 := Tryd.isAgg37
  z51 := Tryd.sizeOf37
  v51 := Tryd.zeroValue37
  t146 := Tryd.underlying55
  a146 := Tryd.isAgg55
  z146 := Tryd.sizeOf55
  v146 := Tryd.zeroValue55
  g1 := by kernel_rfl }
open Go.RowKit Go.Lib in
/-- internal/stringslite.Index (what strings.Index calls) AT A substr OF ONE BYTE c: IT RETURNS 'Lib.indexByte s c'; the world is as it was. (LAID: no walk: one application.) -/
theorem Tryd.stringslite_Index_one (s : ByteArray) (c : UInt8) (w : World) :
    Calls Tryd.prog 21 #[.string s, .string ⟨#[c]⟩] w fun e w' => e = .returned (.int .i64 (Lib.indexByte s.data.toList c)) ∧ w' = w := Any.stringslite_Index_one Tryd.lays219 s c w
open Go.RowKit Go.Lib in
/-- internal/stringslite.Index (what strings.Index calls) AT A substr OF WHATEVER LENGTH: IT RETURNS 'Lib.index s substr'; the world is as it was. 'm': what internal/bytealg.MaxLen holds: whatever. (LAID: no walk: one application.) -/
theorem Tryd.stringslite_Index (s sub : ByteArray) (m : Int) (w : World) (hs : s.size < 4294967281) (hm : w.cell? ⟨4, 0, none⟩ = some (.int .i64 m)) :
    Calls Tryd.prog 21 #[.string s, .string sub] w fun e w' => e = .returned (.int .i64 (Lib.index s.data.toList sub.data.toList)) ∧ w' = w := Any.stringslite_Index Tryd.lays219 s sub m w hs hm
def Tryd.lays220_ren : Go.Shelf.Ren := ⟨fun | 220 => 16 | 219 => 21 | 217 => 25 | 225 => 26 | 224 => 27 | 267 => 28 | 266 => 33 | 314 => 34 | n => n, fun | 9 => 9 | 4 => 4 | 3 => 3 | 5 => 5 | 46 => 29 | 146 => 55 | 51 => 37 | n => n, fun | 1 => 4 | n => n⟩
theorem Tryd.lays220 : Go.Proofs.Lays.n220 Tryd.prog Tryd.lays220_ren := {
  mixed := by kernel_rfl
  f217 := Tryd.func25.trans (congrArg some (by kernel_rfl))
  f219 := Tryd.func21.trans (congrArg some (by kernel_rfl))
  f220 := Tryd.func16.trans (congrArg some (by kernel_rfl))
  f224 := Tryd.func27.trans (congrArg some (by kernel_rfl))
  f225 := Tryd.func26.trans (congrArg some (by kernel_rfl))
  f266 := Tryd.func33.trans (congrArg some (by kernel_rfl))
  f267 := Tryd.func28.trans (congrArg some (by kernel_rfl))
  f314 := Tryd.func34.trans (congrArg some (by kernel_rfl))
  t3 := Tryd.underlying3
  a3 := Tryd.isAgg3
  z3 := Tryd.sizeOf3
  v3 := Tryd.zeroValue3
  t4 := Tryd.underlying4
  a4 := Tryd.isAgg4
  z4 := Tryd.sizeOf4
  v4 := Tryd.zeroValue4
  t5 := Tryd.underlying5
  a5 := Tryd.isAgg5
  z5 := Tryd.sizeOf5
  v5 := Tryd.zeroValue5
  t9 := Tryd.underlying9
  a9 := Tryd.isAgg9
  z9 := Tryd.sizeOf9
  v9 := Tryd.zeroValue9
  t46 := Tryd.underlying29
  a46 := Tryd.isAgg29
  z46 := Tryd.sizeOf29
  v46 := Tryd.zeroValue29
  t51 := Tryd.underlying37
  a51 := Tryd.isAgg37
  z51 := Tryd.sizeOf37
  v51 := Tryd.zeroValue37
  t146 := Tryd.underlying55
  a146 := Tryd.isAgg55
  z146 := Tryd.sizeOf55
  v146 := Tryd.zeroValue55
  g1 := by kernel_rfl }
open Go.RowKit Go.Lib in
/-- internal/stringslite.Cut (what strings.Cut calls): IT RETURNS 'Lib.cut s sep'; the world is as it was but for the count of draws. (LAID: no walk: one application.) -/
theorem Tryd.stringslite_Cut (s sep : ByteArray) (m : Int) (w : World) (hs : s.size < 4294967281) (hm : w.cell? ⟨4, 0, none⟩ = some (.int .i64 m)) :
    Calls Tryd.prog 16 #[.string s, .string sep] w fun e w' => e = .returned (.tuple #[.string ⟨(Lib.cut s.data.toList sep.data.toList).1.toArray⟩, .string ⟨(Lib.cut s.data.toList sep.data.toList).2.1.toArray⟩, .bool (Lib.cut s.data.toList sep.data.toList).2.2]) ∧ ∃ n, w' = w.drewN n := Any.stringslite_Cut Tryd.lays220 s sep m w hs hm
def Tryd.lays145_ren : Go.Shelf.Ren := ⟨fun | 145 => 14 | 220 => 16 | 219 => 21 | 217 => 25 | 225 => 26 | 224 => 27 | 267 => 28 | 266 => 33 | 314 => 34 | n => n, fun | 9 => 9 | 4 => 4 | 59 => 27 | 3 => 3 | 5 => 5 | 46 => 29 | 146 => 55 | 51 => 37 | n => n, fun | 1 => 4 | n => n⟩
theorem Tryd.lays145 : Go.Proofs.Lays.n145 Tryd.prog Tryd.lays145_ren := {
  mixed := by kernel_rfl
  f145 := Tryd.func14.trans (congrArg some (by kernel_rfl))
  f217 := Tryd.func25.trans (congrArg some (by kernel_rfl))
  f219 := Tryd.func21.trans (congrArg some (by kernel_rfl))
  f220 := Tryd.func16.trans (congrArg some (by kernel_rfl))
  f224 := Tryd.func27.trans (congrArg some (by kernel_rfl))
  f225 := Tryd.func26.trans (congrArg some (by kernel_rfl))
  f266 := Tryd.func33.trans (congrArg some (by kernel_rfl))
  f267 := Tryd.func28.trans (congrArg some (by kernel_rfl))
  f314 := Tryd.func34.trans (congrArg some (by kernel_rfl))
  t3 := Tryd.underlying3
  a3 := Tryd.isAgg3
  z3 := Tryd.sizeOf3
  v3 := Tryd.zeroValue3
  t4 := Tryd.underlying4
  a4 := Tryd.isAgg4
  z4 := Tryd.sizeOf4
  v4 := Tryd.zeroValue4
  t5 := Tryd.underlying5
  a5 := Tryd.isAgg5
  z5 := Tryd.sizeOf5
  v5 := Tryd.zeroValue5
  t9 := Tryd.underlying9
  a9 := Tryd.isAgg9
  z9 := Tryd.sizeOf9
  v9 := Tryd.zeroValue9
  t46 := Tryd.underlying29
  a46 := Tryd.isAgg29
  z46 := Tryd.sizeOf29
  v46 := Tryd.zeroValue29
  t51 := Tryd.underlying37
  a51 := Tryd.isAgg37
  z51 := Tryd.sizeOf37
  v51 := Tryd.zeroValue37
  t59 := Tryd.underlying27
  a59 := Tryd.isAgg27
  z59 := Tryd.sizeOf27
  v59 := Tryd.zeroValue27
  t146 := Tryd.underlying55
  a146 := Tryd.isAgg55
  z146 := Tryd.sizeOf55
  v146 := Tryd.zeroValue55
  g1 := by kernel_rfl }
open Go.RowKit Go.Lib in
/-- strings.Cut: "Cut slices s around the first instance of sep, returning the text before and after sep. The found result reports whether sep appears in s. If sep does not appear in s, cut returns s, "", false.": IT RETURNS 'Lib.cut s sep'; the world is as it was but for the count of draws. (LAID: no walk: one application.) -/
theorem Tryd.strings_Cut (s sep : ByteArray) (m : Int) (w : World) (hs : s.size < 4294967281) (hm : w.cell? ⟨4, 0, none⟩ = some (.int .i64 m)) :
    Calls Tryd.prog 14 #[.string s, .string sep] w fun e w' => e = .returned (.tuple #[.string ⟨(Lib.cut s.data.toList sep.data.toList).1.toArray⟩, .string ⟨(Lib.cut s.data.toList sep.data.toList).2.1.toArray⟩, .bool (Lib.cut s.data.toList sep.data.toList).2.2]) ∧ ∃ n, w' = w.drewN n := Any.strings_Cut Tryd.lays145 s sep m w hs hm
def Tryd.laysM219_ren : Go.Shelf.Ren := ⟨fun | 219 => 21 | 217 => 25 | 225 => 26 | 224 => 27 | 267 => 28 | 266 => 33 | 314 => 34 | n => n, fun | 9 => 9 | 3 => 3 | 4 => 4 | 5 => 5 | 46 => 29 | 146 => 55 | 51 => 37 | n => n, fun | 1 => 4 | n => n⟩
theorem Tryd.laysM219 : Go.Proofs.LaysM.n219 Tryd.prog Tryd.laysM219_ren := {
  mixed := by kernel_rfl
  f217 := Tryd.func25.trans (congrArg some (by kernel_rfl))
  f219 := Tryd.func21.trans (congrArg some (by kernel_rfl))
  f224 := Tryd.func27.trans (congrArg some (by kernel_rfl))
  f225 := Tryd.func26.trans (congrArg some (by kernel_rfl))
  f266 := Tryd.func33.trans (congrArg some (by kernel_rfl))
  f267 := Tryd.func28.trans (congrArg some (by kernel_rfl))
  f314 := Tryd.func34.trans (congrArg some (by kernel_rfl))
  t3 := Tryd.underlying3
  a3 := Tryd.isAgg3
  z3 := Tryd.sizeOf3
  v3 := Tryd.zeroValue3
  t4 := Tryd.underlying4
  a4 := Tryd.isAgg4
  z4 := Tryd.sizeOf4
  v4 := Tryd.zeroValue4
  t5 := Tryd.underlying5
  a5 := Tryd.isAgg5
  z5 := Tryd.sizeOf5
  v5 := Tryd.zeroValue5
  t9 := Tryd.underlying9
  a9 := Tryd.isAgg9
  z9 := Tryd.sizeOf9
  v9 := Tryd.zeroValue9
  t46 := Tryd.underlying29
  a46 := Tryd.isAgg29
  z46 := Tryd.sizeOf29
  v46 := Tryd.zeroValue29
  t51 := Tryd.underlying37
  a51 := Tryd.isAgg37
  z51 := Tryd.sizeOf37
  v51 := Tryd.zeroValue37
  t146 := Tryd.underlying55
  a146 := Tryd.isAgg55
  z146 := Tryd.sizeOf55
  v146 := Tryd.zeroValue55
  g1 := by kernel_rfl
  i3 := by kernel_rfl
  i4 := by kernel_rfl
  i5 := by kernel_rfl
  i9 := by kernel_rfl
  i46 := by kernel_rfl
  i51 := by kernel_rfl
  i146 := by kernel_rfl
  m1 := by kernel_rfl
  s1_3 := fun w h => Go.Proofs.cell_of_shapedOpen_int (zero := #[.int .i64 0]) (t := 3) h (of_decide_eq_true (by kernel_rfl)) (by kernel_rfl) rfl (by kernel_rfl) (by kernel_rfl) Tryd.underlying3 }
open Go.RowKit Go.Lib in
theorem Tryd.stringslite_Index_shaped (s sub : ByteArray) (w : World) (h : w.ShapedOpen Tryd.prog) (hs : s.size < 4294967281) :
    Calls Tryd.prog 21 #[.string s, .string sub] w fun e w' => e = .returned (.int .i64 (Lib.index s.data.toList sub.data.toList)) ∧ w' = w := Any.stringslite_Index_shaped Tryd.laysM219 s sub w h hs
def Tryd.laysM220_ren : Go.Shelf.Ren := ⟨fun | 220 => 16 | 219 => 21 | 217 => 25 | 225 => 26 | 224 => 27 | 267 => 28 | 266 => 33 | 314 => 34 | n => n, fun | 9 => 9 | 4 => 4 | 3 => 3 | 5 => 5 | 46 => 29 | 146 => 55 | 51 => 37 | n => n, fun | 1 => 4 | n => n⟩
theorem Tryd.laysM220 : Go.Proofs.LaysM.n220 Tryd.prog Tryd.laysM220_ren := {
  mixed := by kernel_rfl
  f217 := Tryd.func25.trans (congrArg some (by kernel_rfl))
  f219 := Tryd.func21.trans (congrArg some (by kernel_rfl))
  f220 := Tryd.func16.trans (congrArg some (by kernel_rfl))
  f224 := Tryd.func27.trans (congrArg some (by kernel_rfl))
  f225 := Tryd.func26.trans (congrArg some (by kernel_rfl))
  f266 := Tryd.func33.trans (congrArg some (by kernel_rfl))
  f267 := Tryd.func28.trans (congrArg some (by kernel_rfl))
  f314 := Tryd.func34.trans (congrArg some (by kernel_rfl))
  t3 := Tryd.underlying3
  a3 := Tryd.isAgg3
  z3 := Tryd.sizeOf3
  v3 := Tryd.zeroValue3
  t4 := Tryd.underlying4
  a4 := Tryd.isAgg4
  z4 := Tryd.sizeOf4
  v4 := Tryd.zeroValue4
  t5 := Tryd.underlying5
  a5 := Tryd.isAgg5
  z5 := Tryd.sizeOf5
  v5 := Tryd.zeroValue5
  t9 := Tryd.underlying9
  a9 := Tryd.isAgg9
  z9 := Tryd.sizeOf9
  v9 := Tryd.zeroValue9
  t46 := Tryd.underlying29
  a46 := Tryd.isAgg29
  z46 := Tryd.sizeOf29
  v46 := Tryd.zeroValue29
  t51 := Tryd.underlying37
  a51 := Tryd.isAgg37
  z51 := Tryd.sizeOf37
  v51 := Tryd.zeroValue37
  t146 := Tryd.underlying55
  a146 := Tryd.isAgg55
  z146 := Tryd.sizeOf55
  v146 := Tryd.zeroValue55
  g1 := by kernel_rfl
  i3 := by kernel_rfl
  i4 := by kernel_rfl
  i5 := by kernel_rfl
  i9 := by kernel_rfl
  i46 := by kernel_rfl
  i51 := by kernel_rfl
  i146 := by kernel_rfl
  m1 := by kernel_rfl
  s1_3 := fun w h => Go.Proofs.cell_of_shapedOpen_int (zero := #[.int .i64 0]) (t := 3) h (of_decide_eq_true (by kernel_rfl)) (by kernel_rfl) rfl (by kernel_rfl) (by kernel_rfl) Tryd.underlying3 }
open Go.RowKit Go.Lib in
theorem Tryd.stringslite_Cut_shaped (s sep : ByteArray) (w : World) (h : w.ShapedOpen Tryd.prog) (hs : s.size < 4294967281) :
    Calls Tryd.prog 16 #[.string s, .string sep] w fun e w' => e = .returned (.tuple #[.string ⟨(Lib.cut s.data.toList sep.data.toList).1.toArray⟩, .string ⟨(Lib.cut s.data.toList sep.data.toList).2.1.toArray⟩, .bool (Lib.cut s.data.toList sep.data.toList).2.2]) ∧ ∃ n, w' = w.drewN n := Any.stringslite_Cut_shaped Tryd.laysM220 s sep w h hs
def Tryd.laysM145_ren : Go.Shelf.Ren := ⟨fun | 145 => 14 | 220 => 16 | 219 => 21 | 217 => 25 | 225 => 26 | 224 => 27 | 267 => 28 | 266 => 33 | 314 => 34 | n => n, fun | 9 => 9 | 4 => 4 | 59 => 27 | 3 => 3 | 5 => 5 | 46 => 29 | 146 => 55 | 51 => 37 | n => n, fun | 1 => 4 | n => n⟩
theorem Tryd.laysM145 : Go.Proofs.LaysM.n145 Tryd.prog Tryd.laysM145_ren := {
  mixed := by kernel_rfl
  f145 := Tryd.func14.trans (congrArg some (by kernel_rfl))
  f217 := Tryd.func25.trans (congrArg some (by kernel_rfl))
  f219 := Tryd.func21.trans (congrArg some (by kernel_rfl))
  f220 := Tryd.func16.trans (congrArg some (by kernel_rfl))
  f224 := Tryd.func27.trans (congrArg some (by kernel_rfl))
  f225 := Tryd.func26.trans (congrArg some (by kernel_rfl))
  f266 := Tryd.func33.trans (congrArg some (by kernel_rfl))
  f267 := Tryd.func28.trans (congrArg some (by kernel_rfl))
  f314 := Tryd.func34.trans (congrArg some (by kernel_rfl))
  t3 := Tryd.underlying3
  a3 := Tryd.isAgg3
  z3 := Tryd.sizeOf3
  v3 := Tryd.zeroValue3
  t4 := Tryd.underlying4
  a4 := Tryd.isAgg4
  z4 := Tryd.sizeOf4
  v4 := Tryd.zeroValue4
  t5 := Tryd.underlying5
  a5 := Tryd.isAgg5
  z5 := Tryd.sizeOf5
  v5 := Tryd.zeroValue5
  t9 := Tryd.underlying9
  a9 := Tryd.isAgg9
  z9 := Tryd.sizeOf9
  v9 := Tryd.zeroValue9
  t46 := Tryd.underlying29
  a46 := Tryd.isAgg29
  z46 := Tryd.sizeOf29
  v46 := Tryd.zeroValue29
  t51 := Tryd.underlying37
  a51 := Tryd.isAgg37
  z51 := Tryd.sizeOf37
  v51 := Tryd.zeroValue37
  t59 := Tryd.underlying27
  a59 := Tryd.isAgg27
  z59 := Tryd.sizeOf27
  v59 := Tryd.zeroValue27
  t146 := Tryd.underlying55
  a146 := Tryd.isAgg55
  z146 := Tryd.sizeOf55
  v146 := Tryd.zeroValue55
  g1 := by kernel_rfl
  i3 := by kernel_rfl
  i4 := by kernel_rfl
  i5 := by kernel_rfl
  i9 := by kernel_rfl
  i46 := by kernel_rfl
  i51 := by kernel_rfl
  i59 := by kernel_rfl
  i146 := by kernel_rfl
  m1 := by kernel_rfl
  s1_3 := fun w h => Go.Proofs.cell_of_shapedOpen_int (zero := #[.int .i64 0]) (t := 3) h (of_decide_eq_true (by kernel_rfl)) (by kernel_rfl) rfl (by kernel_rfl) (by kernel_rfl) Tryd.underlying3 }
open Go.RowKit Go.Lib in
theorem Tryd.strings_Cut_shaped (s sep : ByteArray) (w : World) (h : w.ShapedOpen Tryd.prog) (hs : s.size < 4294967281) :
    Calls Tryd.prog 14 #[.string s, .string sep] w fun e w' => e = .returned (.tuple #[.string ⟨(Lib.cut s.data.toList sep.data.toList).1.toArray⟩, .string ⟨(Lib.cut s.data.toList sep.data.toList).2.1.toArray⟩, .bool (Lib.cut s.data.toList sep.data.toList).2.2]) ∧ ∃ n, w' = w.drewN n := Any.strings_Cut_shaped Tryd.laysM145 s sep w h hs
def Tryd.lays199_ren : Go.Shelf.Ren := ⟨fun | 199 => 18 | 261 => 23 | 311 => 29 | 312 => 30 | n => n, fun | 21 => 21 | 4 => 4 | 51 => 37 | 141 => 39 | 0 => 0 | 196 => 47 | 193 => 44 | 3 => 3 | 198 => 50 | 49 => 48 | 194 => 45 | 201 => 53 | 226 => 57 | 46 => 29 | 227 => 58 | n => n, fun | 6 => 2 | n => n⟩
theorem Tryd.lays199 : Go.Proofs.Lays.n199 Tryd.prog Tryd.lays199_ren := {
  mixed := by kernel_rfl
  f199 := Tryd.func18.trans (congrArg some (by kernel_rfl))
  f261 := Tryd.func23.trans (congrArg some (by kernel_rfl))
  f311 := Tryd.func29.trans (congrArg some (by kernel_rfl))
  f312 := Tryd.func30.trans (congrArg some (by kernel_rfl))
  t0 := Tryd.underlying0
  a0 := Tryd.isAgg0
  z0 := Tryd.sizeOf0
  v0 := Tryd.zeroValue0
  t3 := Tryd.underlying3
  a3 := Tryd.isAgg3
  z3 := Tryd.sizeOf3
  v3 := Tryd.zeroValue3
  t4 := Tryd.underlying4
  a4 := Tryd.isAgg4
  z4 := Tryd.sizeOf4
  v4 := Tryd.zeroValue4
  t21 := Tryd.underlying21
  a21 := Tryd.isAgg21
  z21 := Tryd.sizeOf21
  v21 := Tryd.zeroValue21
  t46 := Tryd.underlying29
  a46 := Tryd.isAgg29
  z46 := Tryd.sizeOf29
  v46 := Tryd.zeroValue29
  t49 := Tryd.underlying48
  a49 := Tryd.isAgg48
  z49 := Tryd.sizeOf48
  v49 := Tryd.zeroValue48
  t51 := Tryd.underlying37
  a51 := Tryd.isAgg37
  z51 := Tryd.sizeOf37
  v51 := Tryd.zeroValue37
  t141 := Tryd.underlying39
  a141 := Tryd.isAgg39
  z141 := Tryd.sizeOf39
  v141 := Tryd.zeroValue39
  t193 := Tryd.underlying44
  a193 := Tryd.isAgg44
  z193 := Tryd.sizeOf44
  v193 := Tryd.zeroValue44
  t194 := Tryd.underlying45
  a194 := Tryd.isAgg45
  z194 := Tryd.sizeOf45
  v194 := Tryd.zeroValue45
  t196 := Tryd.underlying47
  a196 := Tryd.isAgg47
  z196 := Tryd.sizeOf47
  v196 := Tryd.zeroValue47
  t198 := Tryd.underlying50
  a198 := Tryd.isAgg50
  z198 := Tryd.sizeOf50
  v198 := Tryd.zeroValue50
  t201 := Tryd.underlying53
  a201 := Tryd.isAgg53
  z201 := Tryd.sizeOf53
  v201 := Tryd.zeroValue53
  t226 := Tryd.underlying57
  a226 := Tryd.isAgg57
  z226 := Tryd.sizeOf57
  v226 := Tryd.zeroValue57
  t227 := Tryd.underlying58
  a227 := Tryd.isAgg58
  z227 := Tryd.sizeOf58
  v227 := Tryd.zeroValue58
  g6 := by kernel_rfl }
open Go.RowKit Go.Lib in
theorem Tryd.unicode_IsSpace (r : Int) (w : World) (h0 : 0 ≤ r) (h : r ≤ 255) :
    Calls Tryd.prog 18 #[.int .i32 r] w fun e w' => e = .returned (.bool (Lib.isSpaceL r)) ∧ w' = w := Any.unicode_IsSpace Tryd.lays199 r w h0 h
def Tryd.lays152_ren : Go.Shelf.Ren := ⟨fun | 152 => 24 | 137 => 31 | 119 => 32 | 224 => 27 | 225 => 26 | 217 => 25 | 266 => 33 | n => n, fun | 9 => 9 | 21 => 21 | 3 => 3 | 4 => 4 | 5 => 5 | 0 => 0 | 46 => 29 | n => n, fun | n => n⟩
theorem Tryd.lays152 : Go.Proofs.Lays.n152 Tryd.prog Tryd.lays152_ren := {
  mixed := by kernel_rfl
  f119 := Tryd.func32.trans (congrArg some (by kernel_rfl))
  f137 := Tryd.func31.trans (congrArg some (by kernel_rfl))
  f152 := Tryd.func24.trans (congrArg some (by kernel_rfl))
  f217 := Tryd.func25.trans (congrArg some (by kernel_rfl))
  f224 := Tryd.func27.trans (congrArg some (by kernel_rfl))
  f225 := Tryd.func26.trans (congrArg some (by kernel_rfl))
  f266 := Tryd.func33.trans (congrArg some (by kernel_rfl))
  t0 := Tryd.underlying0
  a0 := Tryd.isAgg0
  z0 := Tryd.sizeOf0
  v0 := Tryd.zeroValue0
  t3 := Tryd.underlying3
  a3 := Tryd.isAgg3
  z3 := Tryd.sizeOf3
  v3 := Tryd.zeroValue3
  t4 := Tryd.underlying4
  a4 := Tryd.isAgg4
  z4 := Tryd.sizeOf4
  v4 := Tryd.zeroValue4
  t5 := Tryd.underlying5
  a5 := Tryd.isAgg5
  z5 := Tryd.sizeOf5
  v5 := Tryd.zeroValue5
  t9 := Tryd.underlying9
  a9 := Tryd.isAgg9
  z9 := Tryd.sizeOf9
  v9 := Tryd.zeroValue9
  t21 := Tryd.underlying21
  a21 := Tryd.isAgg21
  z21 := Tryd.sizeOf21
  v21 := Tryd.zeroValue21
  t46 := Tryd.underlying29
  a46 := Tryd.isAgg29
  z46 := Tryd.sizeOf29
  v46 := Tryd.zeroValue29 }
open Go.RowKit Go.Lib in
theorem Tryd.strings_IndexRune_ascii (s : ByteArray) (r : Int) (w : World) (h0 : 0 ≤ r) (h1 : r < 128) :
    Calls Tryd.prog 24 #[.string s, .int .i32 r] w fun e w' => e = .returned (.int .i64 (Lib.indexByte s.data.toList r.toNat.toUInt8)) ∧ w' = w := Any.strings_IndexRune_ascii Tryd.lays152 s r w h0 h1
def Tryd.lays151_ren : Go.Shelf.Ren := ⟨fun | 151 => 20 | 152 => 24 | 137 => 31 | 119 => 32 | 224 => 27 | 225 => 26 | 217 => 25 | 266 => 33 | n => n, fun | 9 => 9 | 21 => 21 | 4 => 4 | 3 => 3 | 5 => 5 | 0 => 0 | 46 => 29 | n => n, fun | n => n⟩
theorem Tryd.lays151 : Go.Proofs.Lays.n151 Tryd.prog Tryd.lays151_ren := {
  mixed := by kernel_rfl
  f119 := Tryd.func32.trans (congrArg some (by kernel_rfl))
  f137 := Tryd.func31.trans (congrArg some (by kernel_rfl))
  f151 := Tryd.func20.trans (congrArg some (by kernel_rfl))
  f152 := Tryd.func24.trans (congrArg some (by kernel_rfl))
  f217 := Tryd.func25.trans (congrArg some (by kernel_rfl))
  f224 := Tryd.func27.trans (congrArg some (by kernel_rfl))
  f225 := Tryd.func26.trans (congrArg some (by kernel_rfl))
  f266 := Tryd.func33.trans (congrArg some (by kernel_rfl))
  t0 := Tryd.underlying0
  a0 := Tryd.isAgg0
  z0 := Tryd.sizeOf0
  v0 := Tryd.zeroValue0
  t3 := Tryd.underlying3
  a3 := Tryd.isAgg3
  z3 := Tryd.sizeOf3
  v3 := Tryd.zeroValue3
  t4 := Tryd.underlying4
  a4 := Tryd.isAgg4
  z4 := Tryd.sizeOf4
  v4 := Tryd.zeroValue4
  t5 := Tryd.underlying5
  a5 := Tryd.isAgg5
  z5 := Tryd.sizeOf5
  v5 := Tryd.zeroValue5
  t9 := Tryd.underlying9
  a9 := Tryd.isAgg9
  z9 := Tryd.sizeOf9
  v9 := Tryd.zeroValue9
  t21 := Tryd.underlying21
  a21 := Tryd.isAgg21
  z21 := Tryd.sizeOf21
  v21 := Tryd.zeroValue21
  t46 := Tryd.underlying29
  a46 := Tryd.isAgg29
  z46 := Tryd.sizeOf29
  v46 := Tryd.zeroValue29 }
open Go.RowKit Go.Lib in
theorem Tryd.strings_ContainsRune_ascii (s : ByteArray) (r : Int) (w : World) (h0 : 0 ≤ r) (h1 : r < 128) :
    Calls Tryd.prog 20 #[.string s, .int .i32 r] w fun e w' => e = .returned (.bool (decide (0 ≤ Lib.indexByte s.data.toList r.toNat.toUInt8))) ∧ w' = w := Any.strings_ContainsRune_ascii Tryd.lays151 s r w h0 h1
def Tryd.lays311_ren : Go.Shelf.Ren := ⟨fun | 311 => 29 | n => n, fun | 193 => 44 | 49 => 48 | 4 => 4 | 3 => 3 | 0 => 0 | 226 => 57 | 198 => 50 | 46 => 29 | n => n, fun | n => n⟩
theorem Tryd.lays311 : Go.Proofs.Lays.n311 Tryd.prog Tryd.lays311_ren := {
  mixed := by kernel_rfl
  f311 := Tryd.func29.trans (congrArg some (by kernel_rfl))
  t0 := Tryd.underlying0
  a0 := Tryd.isAgg0
  z0 := Tryd.sizeOf0
  v0 := Tryd.zeroValue0
  t3 := Tryd.underlying3
  a3 := Tryd.isAgg3
  z3 := Tryd.sizeOf3
  v3 := Tryd.zeroValue3
  t4 := Tryd.underlying4
  a4 := Tryd.isAgg4
  z4 := Tryd.sizeOf4
  v4 := Tryd.zeroValue4
  t46 := Tryd.underlying29
  a46 := Tryd.isAgg29
  z46 := Tryd.sizeOf29
  v46 := Tryd.zeroValue29
  t49 := Tryd.underlying48
  a49 := Tryd.isAgg48
  z49 := Tryd.sizeOf48
  v49 := Tryd.zeroValue48
  t193 := Tryd.underlying44
  a193 := Tryd.isAgg44
  z193 := Tryd.sizeOf44
  v193 := Tryd.zeroValue44
  t198 := Tryd.underlying50
  a198 := Tryd.isAgg50
  z198 := Tryd.sizeOf50
  v198 := Tryd.zeroValue50
  t226 := Tryd.underlying57
  a226 := Tryd.isAgg57
  z226 := Tryd.sizeOf57
  v226 := Tryd.zeroValue57 }
open Go.RowKit Go.Lib in
theorem Tryd.unicode_is16_white (R oR : Nat) (z : Nat) (w : World) (hz : z < 65536) (hz0 : 255 < z) (c6 : w.cell? ⟨R, oR + 6, none⟩ = some (.int .u16 160)) (c7 : w.cell? ⟨R, oR + 7, none⟩ = some (.int .u16 5760)) (c8 : w.cell? ⟨R, oR + 8, none⟩ = some (.int .u16 5600)) (c9 : w.cell? ⟨R, oR + 9, none⟩ = some (.int .u16 8192)) (c10 : w.cell? ⟨R, oR + 10, none⟩ = some (.int .u16 8202)) (c11 : w.cell? ⟨R, oR + 11, none⟩ = some (.int .u16 1)) (c12 : w.cell? ⟨R, oR + 12, none⟩ = some (.int .u16 8232)) (c13 : w.cell? ⟨R, oR + 13, none⟩ = some (.int .u16 8233)) (c14 : w.cell? ⟨R, oR + 14, none⟩ = some (.int .u16 1)) (c15 : w.cell? ⟨R, oR + 15, none⟩ = some (.int .u16 8239)) (c16 : w.cell? ⟨R, oR + 16, none⟩ = some (.int .u16 8287)) (c17 : w.cell? ⟨R, oR + 17, none⟩ = some (.int .u16 48)) (c18 : w.cell? ⟨R, oR + 18, none⟩ = some (.int .u16 12288)) (c19 : w.cell? ⟨R, oR + 19, none⟩ = some (.int .u16 12288)) (c20 : w.cell? ⟨R, oR + 20, none⟩ = some (.int .u16 1)) :
    Calls Tryd.prog 29 #[.slice (some ⟨R, oR + 6, none⟩) 5 5, .int .u16 z] w fun e w' => e = .returned (.bool (Lib.isSpaceR z)) ∧ Below w.heap.size w w' := Any.unicode_is16_white Tryd.lays311 R oR z w hz hz0 c6 c7 c8 c9 c10 c11 c12 c13 c14 c15 c16 c17 c18 c19 c20
def Tryd.lays261_ren : Go.Shelf.Ren := ⟨fun | 261 => 23 | 311 => 29 | 312 => 30 | n => n, fun | 141 => 39 | 21 => 21 | 4 => 4 | 0 => 0 | 196 => 47 | 193 => 44 | 3 => 3 | 51 => 37 | 198 => 50 | 49 => 48 | 194 => 45 | 201 => 53 | 226 => 57 | 46 => 29 | 227 => 58 | n => n, fun | n => n⟩
theorem Tryd.lays261 : Go.Proofs.Lays.n261 Tryd.prog Tryd.lays261_ren := {
  mixed := by kernel_rfl
  f261 := Tryd.func23.trans (congrArg some (by kernel_rfl))
  f311 := Tryd.func29.trans (congrArg some (by kernel_rfl))
  f312 := Tryd.func30.trans (congrArg some (by kernel_rfl))
  t0 := Tryd.underlying0
  a0 := Tryd.isAgg0
  z0 := Tryd.sizeOf0
  v0 := Tryd.zeroValue0
  t3 := Tryd.underlying3
  a3 := Tryd.isAgg3
  z3 := Tryd.sizeOf3
  v3 := Tryd.zeroValue3
  t4 := Tryd.underlying4
  a4 := Tryd.isAgg4
  z4 := Tryd.sizeOf4
  v4 := Tryd.zeroValue4
  t21 := Tryd.underlying21
  a21 := Tryd.isAgg21
  z21 := Tryd.sizeOf21
  v21 := Tryd.zeroValue21
  t46 := Tryd.underlying29
  a46 := Tryd.isAgg29
  z46 := Tryd.sizeOf29
  v46 := Tryd.zeroValue29
  t49 := Tryd.underlying48
  a49 := Tryd.isAgg48
  z49 := Tryd.sizeOf48
  v49 := Tryd.zeroValue48
  t51 := Tryd.underlying37
  a51 := Tryd.isAgg37
  z51 := Tryd.sizeOf37
  v51 := Tryd.zeroValue37
  t141 := Tryd.underlying39
  a141 := Tryd.isAgg39
  z141 := Tryd.sizeOf39
  v141 := Tryd.zeroValue39
  t193 := Tryd.underlying44
  a193 := Tryd.isAgg44
  z193 := Tryd.sizeOf44
  v193 := Tryd.zeroValue44
  t194 := Tryd.underlying45
  a194 := Tryd.isAgg45
  z194 := Tryd.sizeOf45
  v194 := Tryd.zeroValue45
  t196 := Tryd.underlying47
  a196 := Tryd.isAgg47
  z196 := Tryd.sizeOf47
  v196 := Tryd.zeroValue47
  t198 := Tryd.underlying50
  a198 := Tryd.isAgg50
  z198 := Tryd.sizeOf50
  v198 := Tryd.zeroValue50
  t201 := Tryd.underlying53
  a201 := Tryd.isAgg53
  z201 := Tryd.sizeOf53
  v201 := Tryd.zeroValue53
  t226 := Tryd.underlying57
  a226 := Tryd.isAgg57
  z226 := Tryd.sizeOf57
  v226 := Tryd.zeroValue57
  t227 := Tryd.underlying58
  a227 := Tryd.isAgg58
  z227 := Tryd.sizeOf58
  v227 := Tryd.zeroValue58 }
open Go.RowKit Go.Lib in
/-- unicode.isExcludingLatin(White_Space, r), r beyond U+00FF or negative. (LAID: no walk: one application.) -/
theorem Tryd.unicode_isExcludingLatin_white (T oT R oR : Nat) (r : Int) (w : World) (hlo : -2147483648 ≤ r) (hhi : r ≤ 2147483647) (hr : r < 0 ∨ 255 < r) (h2 : w.cell? ⟨T, oT, none⟩ = some (.slice (some ⟨R, oR, none⟩) 7 7)) (h3 : w.cell? ⟨T, oT + 1, none⟩ = some (.slice none 0 0)) (h4 : w.cell? ⟨T, oT + 2, none⟩ = some (.int .i64 2)) (h5 : ∀ i, i < 21 → w.cell? ⟨R, oR + i, none⟩ = some (.int .u16 (whiteT.getD i 0))) :
    Calls Tryd.prog 23 #[.pointer (some ⟨T, oT, none⟩), .int .i32 r] w fun e w' => e = .returned (.bool (Lib.isSpaceZ r)) ∧ Below w.heap.size w w' := Any.unicode_isExcludingLatin_white Tryd.lays261 T oT R oR r w hlo hhi hr h2 h3 h4 h5
open Go.RowKit Go.Lib in
/-- **unicode.IsSpace AT EVERY int32.** (LAID: no walk: one application.) -/
theorem Tryd.unicode_IsSpace_any (r : Int) (w : World) (hlo : -2147483648 ≤ r) (hhi : r ≤ 2147483647) (hW : Lib.WhiteTab 2 w) :
    Calls Tryd.prog 18 #[.int .i32 r] w fun e w' => e = .returned (.bool (Lib.isSpaceZ r)) ∧ Below w.heap.size w w' := Any.unicode_IsSpace_any Tryd.lays199 r w hlo hhi hW
open Go.RowKit Go.Lib in
theorem Tryd.unicode_is16_white_d (R oR : Nat) (z : Nat) (w : World) (hz : z < 65536) (hz0 : 255 < z) (c6 : w.cell? ⟨R, oR + 6, none⟩ = some (.int .u16 160)) (c7 : w.cell? ⟨R, oR + 7, none⟩ = some (.int .u16 5760)) (c8 : w.cell? ⟨R, oR + 8, none⟩ = some (.int .u16 5600)) (c9 : w.cell? ⟨R, oR + 9, none⟩ = some (.int .u16 8192)) (c10 : w.cell? ⟨R, oR + 10, none⟩ = some (.int .u16 8202)) (c11 : w.cell? ⟨R, oR + 11, none⟩ = some (.int .u16 1)) (c12 : w.cell? ⟨R, oR + 12, none⟩ = some (.int .u16 8232)) (c13 : w.cell? ⟨R, oR + 13, none⟩ = some (.int .u16 8233)) (c14 : w.cell? ⟨R, oR + 14, none⟩ = some (.int .u16 1)) (c15 : w.cell? ⟨R, oR + 15, none⟩ = some (.int .u16 8239)) (c16 : w.cell? ⟨R, oR + 16, none⟩ = some (.int .u16 8287)) (c17 : w.cell? ⟨R, oR + 17, none⟩ = some (.int .u16 48)) (c18 : w.cell? ⟨R, oR + 18, none⟩ = some (.int .u16 12288)) (c19 : w.cell? ⟨R, oR + 19, none⟩ = some (.int .u16 12288)) (c20 : w.cell? ⟨R, oR + 20, none⟩ = some (.int .u16 1)) :
    Calls Tryd.prog 29 #[.slice (some ⟨R, oR + 6, none⟩) 5 5, .int .u16 z] w fun e w' => e = .returned (.bool (Lib.isSpaceR z)) ∧ ∃ q, w' = w.drewN q := Any.unicode_is16_white_d Tryd.lays311 R oR z w hz hz0 c6 c7 c8 c9 c10 c11 c12 c13 c14 c15 c16 c17 c18 c19 c20
open Go.RowKit Go.Lib in
/-- unicode.isExcludingLatin(White_Space, r), r beyond U+00FF or negative. (LAID: no walk: one application.) -/
theorem Tryd.unicode_isExcludingLatin_white_d (T oT R oR : Nat) (r : Int) (w : World) (hlo : -2147483648 ≤ r) (hhi : r ≤ 2147483647) (hr : r < 0 ∨ 255 < r) (h2 : w.cell? ⟨T, oT, none⟩ = some (.slice (some ⟨R, oR, none⟩) 7 7)) (h3 : w.cell? ⟨T, oT + 1, none⟩ = some (.slice none 0 0)) (h4 : w.cell? ⟨T, oT + 2, none⟩ = some (.int .i64 2)) (h5 : ∀ i, i < 21 → w.cell? ⟨R, oR + i, none⟩ = some (.int .u16 (whiteT.getD i 0))) :
    Calls Tryd.prog 23 #[.pointer (some ⟨T, oT, none⟩), .int .i32 r] w fun e w' => e = .returned (.bool (Lib.isSpaceZ r)) ∧ ∃ q, w' = w.drewN q := Any.unicode_isExcludingLatin_white_d Tryd.lays261 T oT R oR r w hlo hhi hr h2 h3 h4 h5
open Go.RowKit Go.Lib in
/-- **unicode.IsSpace AT EVERY int32.** (LAID: no walk: one application.) -/
theorem Tryd.unicode_IsSpace_any_d (r : Int) (w : World) (hlo : -2147483648 ≤ r) (hhi : r ≤ 2147483647) (hW : Lib.WhiteTab 2 w) :
    Calls Tryd.prog 18 #[.int .i32 r] w fun e w' => e = .returned (.bool (Lib.isSpaceZ r)) ∧ ∃ q, w' = w.drewN q := Any.unicode_IsSpace_any_d Tryd.lays199 r w hlo hhi hW
open Go.RowKit Go.Lib in
theorem Tryd.unicode_is16_any (T : Array Rg) (R oR cap : Nat) (z : Nat) (w : World) (hz : z < 65536) (hT : RgTab .u16 R oR T w) (hok : RgOk 65536 T) (hn : T.size ≤ 1000000000) :
    Calls Tryd.prog 29 #[.slice (some ⟨R, oR, none⟩) T.size cap, .int .u16 z] w fun e w' => e = .returned (.bool (is16Go T z)) ∧ ∃ q, w' = w.drewN q := Any.unicode_is16_any Tryd.lays311 T R oR cap z w hz hT hok hn
def Tryd.lays312_ren : Go.Shelf.Ren := ⟨fun | 312 => 30 | n => n, fun | 194 => 45 | 51 => 37 | 4 => 4 | 3 => 3 | 0 => 0 | 227 => 58 | 201 => 53 | 46 => 29 | n => n, fun | n => n⟩
theorem Tryd.lays312 : Go.Proofs.Lays.n312 Tryd.prog Tryd.lays312_ren := {
  mixed := by kernel_rfl
  f312 := Tryd.func30.trans (congrArg some (by kernel_rfl))
  t0 := Tryd.underlying0
  a0 := Tryd.isAgg0
  z0 := Tryd.sizeOf0
  v0 := Tryd.zeroValue0
  t3 := Tryd.underlying3
  a3 := Tryd.isAgg3
  z3 := Tryd.sizeOf3
  v3 := Tryd.zeroValue3
  t4 := Tryd.underlying4
  a4 := Tryd.isAgg4
  z4 := Tryd.sizeOf4
  v4 := Tryd.zeroValue4
  t46 := Tryd.underlying29
  a46 := Tryd.isAgg29
  z46 := Tryd.sizeOf29
  v46 := Tryd.zeroValue29
  t51 := Tryd.underlying37
  a51 := Tryd.isAgg37
  z51 := Tryd.sizeOf37
  v51 := Tryd.zeroValue37
  t194 := Tryd.underlying45
  a194 := Tryd.isAgg45
  z194 := Tryd.sizeOf45
  v194 := Tryd.zeroValue45
  t201 := Tryd.underlying53
  a201 := Tryd.isAgg53
  z201 := Tryd.sizeOf53
  v201 := Tryd.zeroValue53
  t227 := Tryd.underlying58
  a227 := Tryd.isAgg58
  z227 := Tryd.sizeOf58
  v227 := Tryd.zeroValue58 }
open Go.RowKit Go.Lib in
theorem Tryd.unicode_is32_any (T : Array Rg) (R oR cap : Nat) (z : Nat) (w : World) (hz : z < 4294967296) (hT : RgTab .u32 R oR T w) (hok : RgOk 4294967296 T) (hn : T.size ≤ 1000000000) :
    Calls Tryd.prog 30 #[.slice (some ⟨R, oR, none⟩) T.size cap, .int .u32 z] w fun e w' => e = .returned (.bool (is32Go T z)) ∧ Below w.heap.size w w' := Any.unicode_is32_any Tryd.lays312 T R oR cap z w hz hT hok hn
open Go.RowKit Go.Lib in
theorem Tryd.unicode_isExcludingLatin_any (Tb oT : Nat) (T : RTab) (r : Int) (w : World) (hlo : -2147483648 ≤ r) (hhi : r ≤ 2147483647) (hA : RTabAt Tb oT T w) (hok : RTabOk T) :
    Calls Tryd.prog 23 #[.pointer (some ⟨Tb, oT, none⟩), .int .i32 r] w fun e w' => e = .returned (.bool (exclGo T r)) ∧ Below w.heap.size w w' := Any.unicode_isExcludingLatin_any Tryd.lays261 Tb oT T r w hlo hhi hA hok
def Tryd.laysGn22_ren : Go.Shelf.Ren := ⟨fun | 22 => 19 | n => n, fun | 21 => 21 | 4 => 4 | 32 => 37 | 5 => 5 | 40 => 33 | 0 => 0 | n => n, fun | 0 => 3 | n => n⟩
theorem Tryd.laysGn22 : Go.Proofs.LaysGn.n22 Tryd.prog Tryd.laysGn22_ren := {
  mixed := by kernel_rfl
  f22 := Tryd.func19.trans (congrArg some (by kernel_rfl))
  t0 := Tryd.underlying0
  a0 := Tryd.isAgg0
  z0 := Tryd.sizeOf0
  v0 := Tryd.zeroValue0
  i0 := by kernel_rfl
  t4 := Tryd.underlying4
  a4 := Tryd.isAgg4
  z4 := Tryd.sizeOf4
  v4 := Tryd.zeroValue4
  i4 := by kernel_rfl
  t5 := Tryd.underlying5
  a5 := Tryd.isAgg5
  z5 := Tryd.sizeOf5
  v5 := Tryd.zeroValue5
  i5 := by kernel_rfl
  t21 := Tryd.underlying21
  a21 := Tryd.isAgg21
  z21 := Tryd.sizeOf21
  v21 := Tryd.zeroValue21
  i21 := by kernel_rfl
  t32 := Tryd.underlying37
  a32 := Tryd.isAgg37
  z32 := Tryd.sizeOf37
  v32 := Tryd.zeroValue37
  i32 := by kernel_rfl
  t40 := Tryd.underlying33
  a40 := Tryd.isAgg33
  z40 := Tryd.sizeOf33
  g0 := by kernel_rfl
  m0 := by kernel_rfl }
open Go.RowKit Go.Lib in
/-- unicode.IsControl(r) AT EVERY int32. (LAID: no walk: one application.) -/
theorem Tryd.unicode_IsControl_all (r : Int) (w : World) (hlo : -2147483648 ≤ r) (hhi : r ≤ 2147483647) (htab : Lib.TabIs Tryd.prog w "unicode.properties" .u8 Lib.propertiesTab) :
    Calls Tryd.prog 19 #[.int .i32 r] w fun e w' => e = .returned (.bool (isControlU r)) ∧ Below w.heap.size w w' := Any.unicode_IsControl_all Tryd.laysGn22 (by kernel_rfl) r w hlo hhi htab
def Tryd.lays196_ren : Go.Shelf.Ren := ⟨fun | 196 => 17 | 259 => 22 | n => n, fun | 9 => 9 | 4 => 4 | 3 => 3 | 5 => 5 | 12 => 12 | 119 => 33 | 0 => 0 | 46 => 29 | 139 => 36 | 138 => 35 | 53 => 43 | n => n, fun | 3 => 0 | 4 => 1 | n => n⟩
theorem Tryd.lays196 : Go.Proofs.Lays.n196 Tryd.prog Tryd.lays196_ren := {
  mixed := by kernel_rfl
  f196 := Tryd.func17.trans (congrArg some (by kernel_rfl))
  f259 := Tryd.func22.trans (congrArg some (by kernel_rfl))
  t0 := Tryd.underlying0
  a0 := Tryd.isAgg0
  z0 := Tryd.sizeOf0
  v0 := Tryd.zeroValue0
  t3 := Tryd.underlying3
  a3 := Tryd.isAgg3
  z3 := Tryd.sizeOf3
  v3 := Tryd.zeroValue3
  t4 := Tryd.underlying4
  a4 := Tryd.isAgg4
  z4 := Tryd.sizeOf4
  v4 := Tryd.zeroValue4
  t5 := Tryd.underlying5
  a5 := Tryd.isAgg5
  z5 := Tryd.sizeOf5
  v5 := Tryd.zeroValue5
  t9 := Tryd.underlying9
  a9 := Tryd.isAgg9
  z9 := Tryd.sizeOf9
  v9 := Tryd.zeroValue9
  t12 := Tryd.underlying12
  a12 := Tryd.isAgg12
  z12 := Tryd.sizeOf12
  v12 := Tryd.zeroValue12
  t46 := Tryd.underlying29
  a46 := Tryd.isAgg29
  z46 := Tryd.sizeOf29
  v46 := Tryd.zeroValue29
  t53 := Tryd.underlying43
  a53 := Tryd.isAgg43
  z53 := Tryd.sizeOf43
  v53 := Tryd.zeroValue43
  t119 := Tryd.underlying33
  a119 := Tryd.isAgg33
  z119 := Tryd.sizeOf33
  t138 := Tryd.underlying35
  a138 := Tryd.isAgg35
  z138 := Tryd.sizeOf35
  v138 := Tryd.zeroValue35
  t139 := Tryd.underlying36
  a139 := Tryd.isAgg36
  z139 := Tryd.sizeOf36
  v139 := Tryd.zeroValue36
  g3 := by kernel_rfl
  g4 := by kernel_rfl }
end Go.Proofs
