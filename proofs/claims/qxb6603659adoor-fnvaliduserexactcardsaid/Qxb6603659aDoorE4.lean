/-
  zzDecode, further classes of lead bytes (by program).
-/
import Derived.Test.Qxb6603659aDoorE0
namespace Go.Proofs.Qxb6603659aDoor
open Go.RowKit
set_option linter.unusedVariables false

theorem sum_f4 (a b c d : Nat) : (((a : Int) % 8 * 64 + (b : Int) % 64) * 64 + (c : Int) % 64) * 64 + (d : Int) % 64 = ((a % 8 * 262144 + b % 64 * 4096 + c % 64 * 64 + d % 64 : Nat) : Int) := by omega

set_option maxRecDepth 1000000 in
set_option maxHeartbeats 400000 in
theorem dec_f4_short (s : ByteArray) (i : Nat) (w : World) (hs : s.size ≤ 1048576) (h0 : i < s.size) (a1 : (244 : Int) ≤ ((s[i]'h0).toNat : Int)) (a2 : ((s[i]'h0).toNat : Int) ≤ 244) (hsh : s.size < i + 4) :
    Calls Tryd.prog 12 #[.string s, .int .i64 (i : Int)] w fun e w' => e = .returned (zret (Utf8.decode s i)) ∧ w' = w := by
  have hD : Utf8.decode s i = (65533, 1) := by
    rw [dec_at, get_lt s i h0]; unfold Lib.decodeN; repeat' split
    all_goals first | rfl | omega
  rw [hD, zret_bad]
  have hi : (i : Int) < (s.size : Int) := by omega
  clear hD
  go_enter Tryd.func12, Tryd.ntmps12
  go_wp2
  go_ret3
  exact ⟨rfl, rfl⟩

set_option maxRecDepth 1000000 in
set_option maxHeartbeats 400000 in
theorem dec_f4_b1 (s : ByteArray) (i : Nat) (w : World) (hs : s.size ≤ 1048576) (h0 : i < s.size) (a1 : (244 : Int) ≤ ((s[i]'h0).toNat : Int)) (a2 : ((s[i]'h0).toNat : Int) ≤ 244) (hl : i + 4 ≤ s.size) (hb : ((s[i + 1]'(by omega)).toNat : Int) < 128 ∨ (143 : Int) < ((s[i + 1]'(by omega)).toNat : Int)) :
    Calls Tryd.prog 12 #[.string s, .int .i64 (i : Int)] w fun e w' => e = .returned (zret (Utf8.decode s i)) ∧ w' = w := by
  have hD : Utf8.decode s i = (65533, 1) := by
    have hlt := (s[i + 1]'(by omega)).toNat_lt
    rw [dec_at, get_lt s i h0, get_lt s (i + 1) (by omega)]; unfold Lib.decodeN; repeat' split
    all_goals first | rfl | omega
  rw [hD, zret_bad]
  have hi : (i : Int) < (s.size : Int) := by omega
  have hi1 : (i : Int) + 1 < (s.size : Int) := by omega
  clear hD
  rcases hb with hb | hb
  all_goals
    go_enter Tryd.func12, Tryd.ntmps12
    go_wp2
    go_ret3
    exact ⟨rfl, rfl⟩

set_option maxRecDepth 1000000 in
set_option maxHeartbeats 1000000 in
theorem dec_f4_b2 (s : ByteArray) (i : Nat) (w : World) (hs : s.size ≤ 1048576) (h0 : i < s.size) (a1 : (244 : Int) ≤ ((s[i]'h0).toNat : Int)) (a2 : ((s[i]'h0).toNat : Int) ≤ 244) (hl : i + 4 ≤ s.size) (b1 : (128 : Int) ≤ ((s[i + 1]'(by omega)).toNat : Int)) (b2 : ((s[i + 1]'(by omega)).toNat : Int) ≤ 143) (hb : ((s[i + 2]'(by omega)).toNat : Int) < 128 ∨ (191 : Int) < ((s[i + 2]'(by omega)).toNat : Int)) :
    Calls Tryd.prog 12 #[.string s, .int .i64 (i : Int)] w fun e w' => e = .returned (zret (Utf8.decode s i)) ∧ w' = w := by
  have hD : Utf8.decode s i = (65533, 1) := by
    have hlt := (s[i + 2]'(by omega)).toNat_lt
    rw [dec_at, get_lt s i h0, get_lt s (i + 1) (by omega), get_lt s (i + 2) (by omega)]; unfold Lib.decodeN; repeat' split
    all_goals first | rfl | omega
  rw [hD, zret_bad]
  have hi : (i : Int) < (s.size : Int) := by omega
  have hi1 : (i : Int) + 1 < (s.size : Int) := by omega
  have hi2 : (i : Int) + 2 < (s.size : Int) := by omega
  have hi3 : (i : Int) + 3 < (s.size : Int) := by omega
  clear hD
  rcases hb with hb | hb
  all_goals
    go_enter Tryd.func12, Tryd.ntmps12
    go_wp2
    refine wp_loop_rounds 3 ?_
    rw [rounds_succ]
    go_wp2
    go_ret3
    exact ⟨rfl, rfl⟩

set_option maxRecDepth 1000000 in
set_option maxHeartbeats 1000000 in
theorem dec_f4_b3 (s : ByteArray) (i : Nat) (w : World) (hs : s.size ≤ 1048576) (h0 : i < s.size) (a1 : (244 : Int) ≤ ((s[i]'h0).toNat : Int)) (a2 : ((s[i]'h0).toNat : Int) ≤ 244) (hl : i + 4 ≤ s.size) (b1 : (128 : Int) ≤ ((s[i + 1]'(by omega)).toNat : Int)) (b2 : ((s[i + 1]'(by omega)).toNat : Int) ≤ 143) (c2 : (128 : Int) ≤ ((s[i + 2]'(by omega)).toNat : Int)) (d2 : ((s[i + 2]'(by omega)).toNat : Int) ≤ 191) (hb : ((s[i + 3]'(by omega)).toNat : Int) < 128 ∨ (191 : Int) < ((s[i + 3]'(by omega)).toNat : Int)) :
    Calls Tryd.prog 12 #[.string s, .int .i64 (i : Int)] w fun e w' => e = .returned (zret (Utf8.decode s i)) ∧ w' = w := by
  have hD : Utf8.decode s i = (65533, 1) := by
    have hlt := (s[i + 3]'(by omega)).toNat_lt
    rw [dec_at, get_lt s i h0, get_lt s (i + 1) (by omega), get_lt s (i + 2) (by omega), get_lt s (i + 3) (by omega)]; unfold Lib.decodeN; repeat' split
    all_goals first | rfl | omega
  rw [hD, zret_bad]
  have hi : (i : Int) < (s.size : Int) := by omega
  have hi1 : (i : Int) + 1 < (s.size : Int) := by omega
  have hi2 : (i : Int) + 2 < (s.size : Int) := by omega
  have hi3 : (i : Int) + 3 < (s.size : Int) := by omega
  clear hD
  rcases hb with hb | hb
  all_goals
    go_enter Tryd.func12, Tryd.ntmps12
    go_wp2
    refine wp_loop_rounds 3 ?_
    rw [rounds_succ]
    go_wp2
    rw [rounds_succ]
    go_wp2
    go_ret3
    exact ⟨rfl, rfl⟩

set_option maxRecDepth 1000000 in
set_option maxHeartbeats 1000000 in
theorem dec_f4_ok (s : ByteArray) (i : Nat) (w : World) (hs : s.size ≤ 1048576) (h0 : i < s.size) (a1 : (244 : Int) ≤ ((s[i]'h0).toNat : Int)) (a2 : ((s[i]'h0).toNat : Int) ≤ 244) (hl : i + 4 ≤ s.size) (b1 : (128 : Int) ≤ ((s[i + 1]'(by omega)).toNat : Int)) (b2 : ((s[i + 1]'(by omega)).toNat : Int) ≤ 143) (c2 : (128 : Int) ≤ ((s[i + 2]'(by omega)).toNat : Int)) (d2 : ((s[i + 2]'(by omega)).toNat : Int) ≤ 191) (c3 : (128 : Int) ≤ ((s[i + 3]'(by omega)).toNat : Int)) (d3 : ((s[i + 3]'(by omega)).toNat : Int) ≤ 191) :
    Calls Tryd.prog 12 #[.string s, .int .i64 (i : Int)] w fun e w' => e = .returned (zret (Utf8.decode s i)) ∧ w' = w := by
  have hD : Utf8.decode s i = ((s[i]'h0).toNat % 8 * 262144 + (s[i + 1]'(by omega)).toNat % 64 * 4096 + (s[i + 2]'(by omega)).toNat % 64 * 64 + (s[i + 3]'(by omega)).toNat % 64, 4) := by
    rw [dec_at, get_lt s i h0, get_lt s (i + 1) (by omega), get_lt s (i + 2) (by omega), get_lt s (i + 3) (by omega)]; unfold Lib.decodeN; repeat' split
    all_goals first | rfl | omega
  rw [hD, zret_many _ _ (by omega)]
  have hi : (i : Int) < (s.size : Int) := by omega
  have hi1 : (i : Int) + 1 < (s.size : Int) := by omega
  have hi2 : (i : Int) + 2 < (s.size : Int) := by omega
  have hi3 : (i : Int) + 3 < (s.size : Int) := by omega
  clear hD
  go_enter Tryd.func12, Tryd.ntmps12
  go_wp2
  refine wp_loop_rounds 3 ?_
  rw [rounds_succ]
  go_wp2
  rw [rounds_succ]
  go_wp2
  rw [rounds_succ]
  go_wp2
  go_ret3
  exact ⟨tup3 (congrArg (Value.int IntKind.i32) (sum_f4 _ _ _ _)) rfl rfl, rfl⟩

end Go.Proofs.Qxb6603659aDoor
