/-
  zzDecode, further classes of lead bytes (by program).
-/
import Derived.Test.Qxb6603659aDoorE0
namespace Go.Proofs.Qxb6603659aDoor
open Go.RowKit
set_option linter.unusedVariables false

set_option maxRecDepth 1000000 in
set_option maxHeartbeats 400000 in
theorem dec_e1_short (s : ByteArray) (i : Nat) (w : World) (hs : s.size ≤ 1048576) (h0 : i < s.size) (a1 : (225 : Int) ≤ ((s[i]'h0).toNat : Int)) (a2 : ((s[i]'h0).toNat : Int) ≤ 236) (hsh : s.size < i + 3) :
    Calls Tryd.prog 12 #[.string s, .int .i64 (i : Int)] w fun e w' => e = .returned (zret (Utf8.decode s i)) ∧ w' = w := by
  have hD : Utf8.decode s i = (65533, 1) := by
    rw [dec_at, get_lt s i h0]; unfold Lib.decodeN; repeat' split
    all_goals first | rfl | omega
  rw [hD, zret_bad]
  have hi : (i : Int) < (s.size : Int) := by omega
  clear hD
  go_enter Tryd.func12, Tryd.ntmps12
  go_wp2
  go_ret3
  exact ⟨rfl, rfl⟩

set_option maxRecDepth 1000000 in
set_option maxHeartbeats 400000 in
theorem dec_e1_b1 (s : ByteArray) (i : Nat) (w : World) (hs : s.size ≤ 1048576) (h0 : i < s.size) (a1 : (225 : Int) ≤ ((s[i]'h0).toNat : Int)) (a2 : ((s[i]'h0).toNat : Int) ≤ 236) (hl : i + 3 ≤ s.size) (hb : ((s[i + 1]'(by omega)).toNat : Int) < 128 ∨ (191 : Int) < ((s[i + 1]'(by omega)).toNat : Int)) :
    Calls Tryd.prog 12 #[.string s, .int .i64 (i : Int)] w fun e w' => e = .returned (zret (Utf8.decode s i)) ∧ w' = w := by
  have hD : Utf8.decode s i = (65533, 1) := by
    have hlt := (s[i + 1]'(by omega)).toNat_lt
    rw [dec_at, get_lt s i h0, get_lt s (i + 1) (by omega)]; unfold Lib.decodeN; repeat' split
    all_goals first | rfl | omega
  rw [hD, zret_bad]
  have hi : (i : Int) < (s.size : Int) := by omega
  have hi1 : (i : Int) + 1 < (s.size : Int) := by omega
  clear hD
  rcases hb with hb | hb
  all_goals
    go_enter Tryd.func12, Tryd.ntmps12
    go_wp2
    go_ret3
    exact ⟨rfl, rfl⟩

set_option maxRecDepth 1000000 in
set_option maxHeartbeats 1000000 in
theorem dec_e1_b2 (s : ByteArray) (i : Nat) (w : World) (hs : s.size ≤ 1048576) (h0 : i < s.size) (a1 : (225 : Int) ≤ ((s[i]'h0).toNat : Int)) (a2 : ((s[i]'h0).toNat : Int) ≤ 236) (hl : i + 3 ≤ s.size) (b1 : (128 : Int) ≤ ((s[i + 1]'(by omega)).toNat : Int)) (b2 : ((s[i + 1]'(by omega)).toNat : Int) ≤ 191) (hb : ((s[i + 2]'(by omega)).toNat : Int) < 128 ∨ (191 : Int) < ((s[i + 2]'(by omega)).toNat : Int)) :
    Calls Tryd.prog 12 #[.string s, .int .i64 (i : Int)] w fun e w' => e = .returned (zret (Utf8.decode s i)) ∧ w' = w := by
  have hD : Utf8.decode s i = (65533, 1) := by
    have hlt := (s[i + 2]'(by omega)).toNat_lt
    rw [dec_at, get_lt s i h0, get_lt s (i + 1) (by omega), get_lt s (i + 2) (by omega)]; unfold Lib.decodeN; repeat' split
    all_goals first | rfl | omega
  rw [hD, zret_bad]
  have hi : (i : Int) < (s.size : Int) := by omega
  have hi1 : (i : Int) + 1 < (s.size : Int) := by omega
  have hi2 : (i : Int) + 2 < (s.size : Int) := by omega
  clear hD
  rcases hb with hb | hb
  all_goals
    go_enter Tryd.func12, Tryd.ntmps12
    go_wp2
    refine wp_loop_rounds 2 ?_
    rw [rounds_succ]
    go_wp2
    go_ret3
    exact ⟨rfl, rfl⟩

set_option maxRecDepth 1000000 in
set_option maxHeartbeats 1000000 in
theorem dec_e1_ok (s : ByteArray) (i : Nat) (w : World) (hs : s.size ≤ 1048576) (h0 : i < s.size) (a1 : (225 : Int) ≤ ((s[i]'h0).toNat : Int)) (a2 : ((s[i]'h0).toNat : Int) ≤ 236) (hl : i + 3 ≤ s.size) (b1 : (128 : Int) ≤ ((s[i + 1]'(by omega)).toNat : Int)) (b2 : ((s[i + 1]'(by omega)).toNat : Int) ≤ 191) (c2 : (128 : Int) ≤ ((s[i + 2]'(by omega)).toNat : Int)) (d2 : ((s[i + 2]'(by omega)).toNat : Int) ≤ 191) :
    Calls Tryd.prog 12 #[.string s, .int .i64 (i : Int)] w fun e w' => e = .returned (zret (Utf8.decode s i)) ∧ w' = w := by
  have hD : Utf8.decode s i = ((s[i]'h0).toNat % 16 * 4096 + (s[i + 1]'(by omega)).toNat % 64 * 64 + (s[i + 2]'(by omega)).toNat % 64, 3) := by
    rw [dec_at, get_lt s i h0, get_lt s (i + 1) (by omega), get_lt s (i + 2) (by omega)]; unfold Lib.decodeN; repeat' split
    all_goals first | rfl | omega
  rw [hD, zret_many _ _ (by omega)]
  have hi : (i : Int) < (s.size : Int) := by omega
  have hi1 : (i : Int) + 1 < (s.size : Int) := by omega
  have hi2 : (i : Int) + 2 < (s.size : Int) := by omega
  clear hD
  go_enter Tryd.func12, Tryd.ntmps12
  go_wp2
  refine wp_loop_rounds 2 ?_
  rw [rounds_succ]
  go_wp2
  rw [rounds_succ]
  go_wp2
  go_ret3
  exact ⟨tup3 (by first | rfl | (refine congrArg (Value.int IntKind.i32) ?_; push_cast; omega)) rfl rfl, rfl⟩

set_option maxRecDepth 1000000 in
set_option maxHeartbeats 400000 in
theorem dec_ed_short (s : ByteArray) (i : Nat) (w : World) (hs : s.size ≤ 1048576) (h0 : i < s.size) (a1 : (237 : Int) ≤ ((s[i]'h0).toNat : Int)) (a2 : ((s[i]'h0).toNat : Int) ≤ 237) (hsh : s.size < i + 3) :
    Calls Tryd.prog 12 #[.string s, .int .i64 (i : Int)] w fun e w' => e = .returned (zret (Utf8.decode s i)) ∧ w' = w := by
  have hD : Utf8.decode s i = (65533, 1) := by
    rw [dec_at, get_lt s i h0]; unfold Lib.decodeN; repeat' split
    all_goals first | rfl | omega
  rw [hD, zret_bad]
  have hi : (i : Int) < (s.size : Int) := by omega
  clear hD
  go_enter Tryd.func12, Tryd.ntmps12
  go_wp2
  go_ret3
  exact ⟨rfl, rfl⟩

set_option maxRecDepth 1000000 in
set_option maxHeartbeats 400000 in
theorem dec_ed_b1 (s : ByteArray) (i : Nat) (w : World) (hs : s.size ≤ 1048576) (h0 : i < s.size) (a1 : (237 : Int) ≤ ((s[i]'h0).toNat : Int)) (a2 : ((s[i]'h0).toNat : Int) ≤ 237) (hl : i + 3 ≤ s.size) (hb : ((s[i + 1]'(by omega)).toNat : Int) < 128 ∨ (159 : Int) < ((s[i + 1]'(by omega)).toNat : Int)) :
    Calls Tryd.prog 12 #[.string s, .int .i64 (i : Int)] w fun e w' => e = .returned (zret (Utf8.decode s i)) ∧ w' = w := by
  have hD : Utf8.decode s i = (65533, 1) := by
    have hlt := (s[i + 1]'(by omega)).toNat_lt
    rw [dec_at, get_lt s i h0, get_lt s (i + 1) (by omega)]; unfold Lib.decodeN; repeat' split
    all_goals first | rfl | omega
  rw [hD, zret_bad]
  have hi : (i : Int) < (s.size : Int) := by omega
  have hi1 : (i : Int) + 1 < (s.size : Int) := by omega
  clear hD
  rcases hb with hb | hb
  all_goals
    go_enter Tryd.func12, Tryd.ntmps12
    go_wp2
    go_ret3
    exact ⟨rfl, rfl⟩

set_option maxRecDepth 1000000 in
set_option maxHeartbeats 1000000 in
theorem dec_ed_b2 (s : ByteArray) (i : Nat) (w : World) (hs : s.size ≤ 1048576) (h0 : i < s.size) (a1 : (237 : Int) ≤ ((s[i]'h0).toNat : Int)) (a2 : ((s[i]'h0).toNat : Int) ≤ 237) (hl : i + 3 ≤ s.size) (b1 : (128 : Int) ≤ ((s[i + 1]'(by omega)).toNat : Int)) (b2 : ((s[i + 1]'(by omega)).toNat : Int) ≤ 159) (hb : ((s[i + 2]'(by omega)).toNat : Int) < 128 ∨ (191 : Int) < ((s[i + 2]'(by omega)).toNat : Int)) :
    Calls Tryd.prog 12 #[.string s, .int .i64 (i : Int)] w fun e w' => e = .returned (zret (Utf8.decode s i)) ∧ w' = w := by
  have hD : Utf8.decode s i = (65533, 1) := by
    have hlt := (s[i + 2]'(by omega)).toNat_lt
    rw [dec_at, get_lt s i h0, get_lt s (i + 1) (by omega), get_lt s (i + 2) (by omega)]; unfold Lib.decodeN; repeat' split
    all_goals first | rfl | omega
  rw [hD, zret_bad]
  have hi : (i : Int) < (s.size : Int) := by omega
  have hi1 : (i : Int) + 1 < (s.size : Int) := by omega
  have hi2 : (i : Int) + 2 < (s.size : Int) := by omega
  clear hD
  rcases hb with hb | hb
  all_goals
    go_enter Tryd.func12, Tryd.ntmps12
    go_wp2
    refine wp_loop_rounds 2 ?_
    rw [rounds_succ]
    go_wp2
    go_ret3
    exact ⟨rfl, rfl⟩

set_option maxRecDepth 1000000 in
set_option maxHeartbeats 1000000 in
theorem dec_ed_ok (s : ByteArray) (i : Nat) (w : World) (hs : s.size ≤ 1048576) (h0 : i < s.size) (a1 : (237 : Int) ≤ ((s[i]'h0).toNat : Int)) (a2 : ((s[i]'h0).toNat : Int) ≤ 237) (hl : i + 3 ≤ s.size) (b1 : (128 : Int) ≤ ((s[i + 1]'(by omega)).toNat : Int)) (b2 : ((s[i + 1]'(by omega)).toNat : Int) ≤ 159) (c2 : (128 : Int) ≤ ((s[i + 2]'(by omega)).toNat : Int)) (d2 : ((s[i + 2]'(by omega)).toNat : Int) ≤ 191) :
    Calls Tryd.prog 12 #[.string s, .int .i64 (i : Int)] w fun e w' => e = .returned (zret (Utf8.decode s i)) ∧ w' = w := by
  have hD : Utf8.decode s i = ((s[i]'h0).toNat % 16 * 4096 + (s[i + 1]'(by omega)).toNat % 64 * 64 + (s[i + 2]'(by omega)).toNat % 64, 3) := by
    rw [dec_at, get_lt s i h0, get_lt s (i + 1) (by omega), get_lt s (i + 2) (by omega)]; unfold Lib.decodeN; repeat' split
    all_goals first | rfl | omega
  rw [hD, zret_many _ _ (by omega)]
  have hi : (i : Int) < (s.size : Int) := by omega
  have hi1 : (i : Int) + 1 < (s.size : Int) := by omega
  have hi2 : (i : Int) + 2 < (s.size : Int) := by omega
  clear hD
  go_enter Tryd.func12, Tryd.ntmps12
  go_wp2
  refine wp_loop_rounds 2 ?_
  rw [rounds_succ]
  go_wp2
  rw [rounds_succ]
  go_wp2
  go_ret3
  exact ⟨tup3 (by first | rfl | (refine congrArg (Value.int IntKind.i32) ?_; push_cast; omega)) rfl rfl, rfl⟩

set_option maxRecDepth 1000000 in
set_option maxHeartbeats 400000 in
theorem dec_ee_short (s : ByteArray) (i : Nat) (w : World) (hs : s.size ≤ 1048576) (h0 : i < s.size) (a1 : (238 : Int) ≤ ((s[i]'h0).toNat : Int)) (a2 : ((s[i]'h0).toNat : Int) ≤ 239) (hsh : s.size < i + 3) :
    Calls Tryd.prog 12 #[.string s, .int .i64 (i : Int)] w fun e w' => e = .returned (zret (Utf8.decode s i)) ∧ w' = w := by
  have hD : Utf8.decode s i = (65533, 1) := by
    rw [dec_at, get_lt s i h0]; unfold Lib.decodeN; repeat' split
    all_goals first | rfl | omega
  rw [hD, zret_bad]
  have hi : (i : Int) < (s.size : Int) := by omega
  clear hD
  go_enter Tryd.func12, Tryd.ntmps12
  go_wp2
  go_ret3
  exact ⟨rfl, rfl⟩

set_option maxRecDepth 1000000 in
set_option maxHeartbeats 400000 in
theorem dec_ee_b1 (s : ByteArray) (i : Nat) (w : World) (hs : s.size ≤ 1048576) (h0 : i < s.size) (a1 : (238 : Int) ≤ ((s[i]'h0).toNat : Int)) (a2 : ((s[i]'h0).toNat : Int) ≤ 239) (hl : i + 3 ≤ s.size) (hb : ((s[i + 1]'(by omega)).toNat : Int) < 128 ∨ (191 : Int) < ((s[i + 1]'(by omega)).toNat : Int)) :
    Calls Tryd.prog 12 #[.string s, .int .i64 (i : Int)] w fun e w' => e = .returned (zret (Utf8.decode s i)) ∧ w' = w := by
  have hD : Utf8.decode s i = (65533, 1) := by
    have hlt := (s[i + 1]'(by omega)).toNat_lt
    rw [dec_at, get_lt s i h0, get_lt s (i + 1) (by omega)]; unfold Lib.decodeN; repeat' split
    all_goals first | rfl | omega
  rw [hD, zret_bad]
  have hi : (i : Int) < (s.size : Int) := by omega
  have hi1 : (i : Int) + 1 < (s.size : Int) := by omega
  clear hD
  rcases hb with hb | hb
  all_goals
    go_enter Tryd.func12, Tryd.ntmps12
    go_wp2
    go_ret3
    exact ⟨rfl, rfl⟩

set_option maxRecDepth 1000000 in
set_option maxHeartbeats 1000000 in
theorem dec_ee_b2 (s : ByteArray) (i : Nat) (w : World) (hs : s.size ≤ 1048576) (h0 : i < s.size) (a1 : (238 : Int) ≤ ((s[i]'h0).toNat : Int)) (a2 : ((s[i]'h0).toNat : Int) ≤ 239) (hl : i + 3 ≤ s.size) (b1 : (128 : Int) ≤ ((s[i + 1]'(by omega)).toNat : Int)) (b2 : ((s[i + 1]'(by omega)).toNat : Int) ≤ 191) (hb : ((s[i + 2]'(by omega)).toNat : Int) < 128 ∨ (191 : Int) < ((s[i + 2]'(by omega)).toNat : Int)) :
    Calls Tryd.prog 12 #[.string s, .int .i64 (i : Int)] w fun e w' => e = .returned (zret (Utf8.decode s i)) ∧ w' = w := by
  have hD : Utf8.decode s i = (65533, 1) := by
    have hlt := (s[i + 2]'(by omega)).toNat_lt
    rw [dec_at, get_lt s i h0, get_lt s (i + 1) (by omega), get_lt s (i + 2) (by omega)]; unfold Lib.decodeN; repeat' split
    all_goals first | rfl | omega
  rw [hD, zret_bad]
  have hi : (i : Int) < (s.size : Int) := by omega
  have hi1 : (i : Int) + 1 < (s.size : Int) := by omega
  have hi2 : (i : Int) + 2 < (s.size : Int) := by omega
  clear hD
  rcases hb with hb | hb
  all_goals
    go_enter Tryd.func12, Tryd.ntmps12
    go_wp2
    refine wp_loop_rounds 2 ?_
    rw [rounds_succ]
    go_wp2
    go_ret3
    exact ⟨rfl, rfl⟩

set_option maxRecDepth 1000000 in
set_option maxHeartbeats 1000000 in
theorem dec_ee_ok (s : ByteArray) (i : Nat) (w : World) (hs : s.size ≤ 1048576) (h0 : i < s.size) (a1 : (238 : Int) ≤ ((s[i]'h0).toNat : Int)) (a2 : ((s[i]'h0).toNat : Int) ≤ 239) (hl : i + 3 ≤ s.size) (b1 : (128 : Int) ≤ ((s[i + 1]'(by omega)).toNat : Int)) (b2 : ((s[i + 1]'(by omega)).toNat : Int) ≤ 191) (c2 : (128 : Int) ≤ ((s[i + 2]'(by omega)).toNat : Int)) (d2 : ((s[i + 2]'(by omega)).toNat : Int) ≤ 191) :
    Calls Tryd.prog 12 #[.string s, .int .i64 (i : Int)] w fun e w' => e = .returned (zret (Utf8.decode s i)) ∧ w' = w := by
  have hD : Utf8.decode s i = ((s[i]'h0).toNat % 16 * 4096 + (s[i + 1]'(by omega)).toNat % 64 * 64 + (s[i + 2]'(by omega)).toNat % 64, 3) := by
    rw [dec_at, get_lt s i h0, get_lt s (i + 1) (by omega), get_lt s (i + 2) (by omega)]; unfold Lib.decodeN; repeat' split
    all_goals first | rfl | omega
  rw [hD, zret_many _ _ (by omega)]
  have hi : (i : Int) < (s.size : Int) := by omega
  have hi1 : (i : Int) + 1 < (s.size : Int) := by omega
  have hi2 : (i : Int) + 2 < (s.size : Int) := by omega
  clear hD
  go_enter Tryd.func12, Tryd.ntmps12
  go_wp2
  refine wp_loop_rounds 2 ?_
  rw [rounds_succ]
  go_wp2
  rw [rounds_succ]
  go_wp2
  go_ret3
  exact ⟨tup3 (by first | rfl | (refine congrArg (Value.int IntKind.i32) ?_; push_cast; omega)) rfl rfl, rfl⟩

end Go.Proofs.Qxb6603659aDoor
