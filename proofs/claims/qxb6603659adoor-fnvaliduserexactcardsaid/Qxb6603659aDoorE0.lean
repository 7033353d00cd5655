/-
  zzDecode: what it answers is the model's own decoding; where that is ill-formed: 0, 1, false. (The ways by program, one theorem a class of lead bytes.)
-/
import Derived.Test.Qxb6603659aDoorRows
import Derived.Test.Qxb6603659aDoorPlain
import Derived.WalkKit
import Derived.WalkSpells
import Derived.WalkLawsBesides
import Derived.Deep.QuietTactic
import Derived.BigQuiet
namespace Go.Proofs.Qxb6603659aDoor
open Go.RowKit
set_option linter.unusedVariables false

/-- zzDecode's three results, by the rune and the width that the model decodes -/
def zret (d : Nat × Nat) : Value := if d = (65533, 1) then .tuple #[.int .i32 0, .int .i64 1, .bool false] else .tuple #[.int .i32 (d.1 : Int), .int .i64 (d.2 : Int), .bool true]
theorem zret_bad : zret (65533, 1) = .tuple #[.int .i32 0, .int .i64 1, .bool false] := by unfold zret; rw [if_pos rfl]
theorem zret_one (c : Nat) (h : c < 128) : zret (c, 1) = .tuple #[.int .i32 (c : Int), .int .i64 1, .bool true] := by
  unfold zret; rw [if_neg (by intro e; cases e; omega)]; rfl
theorem zret_many (c n : Nat) (h : 2 ≤ n) : zret (c, n) = .tuple #[.int .i32 (c : Int), .int .i64 (n : Int), .bool true] := by
  unfold zret; rw [if_neg (by intro e; cases e; omega)]

theorem get_lt (s : ByteArray) (k : Nat) (h : k < s.size) : s.get! k = s[k]'h := by
  cases s with
  | mk d => exact getElem!_pos d k h

theorem tup3 {a b c a' b' c' : Value} (h1 : a = a') (h2 : b = b') (h3 : c = c') : Ending.returned (.tuple #[a, b, c]) = .returned (.tuple #[a', b', c']) := by rw [h1, h2, h3]

/-- the decoding at i, by its bytes -/
theorem dec_at (s : ByteArray) (i : Nat) : Utf8.decode s i = Lib.decodeN (s.size - i) (s.get! i).toNat (s.get! (i + 1)).toNat (s.get! (i + 2)).toNat (s.get! (i + 3)).toNat := Lib.decode_at s i

set_option maxHeartbeats 400000 in
theorem dec_ascii (s : ByteArray) (i : Nat) (w : World) (hs : s.size ≤ 1048576) (h0 : i < s.size) (a1 : ((s[i]'h0).toNat : Int) < 128) :
    Calls Tryd.prog 12 #[.string s, .int .i64 (i : Int)] w fun e w' => e = .returned (zret (Utf8.decode s i)) ∧ w' = w := by
  have hD : Utf8.decode s i = ((s[i]'h0).toNat, 1) := decode_ascii s i h0 (by omega)
  have hw : wrap32 ((s[i]'h0).toNat : Int) = ((s[i]'h0).toNat : Int) := by unfold wrap32; omega
  rw [hD, zret_one _ (by omega)]
  have hi : (i : Int) < (s.size : Int) := by omega
  go_enter Tryd.func12, Tryd.ntmps12
  go_wp2
  go_ret3
  exact ⟨rfl, rfl⟩

end Go.Proofs.Qxb6603659aDoor
