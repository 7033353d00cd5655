/-
  zzDecode, joined.
-/
import Derived.Test.Qxb6603659aDoorE1
import Derived.Test.Qxb6603659aDoorE2
import Derived.Test.Qxb6603659aDoorE3
import Derived.Test.Qxb6603659aDoorE4
import Derived.Test.Qxb6603659aDoorE8
namespace Go.Proofs.Qxb6603659aDoor
open Go.RowKit
set_option linter.unusedVariables false

set_option maxRecDepth 1000000 in
set_option maxHeartbeats 400000 in
theorem dec_other (s : ByteArray) (i : Nat) (w : World) (hs : s.size ≤ 1048576) (h0 : i < s.size) (a : ((128 : Int) ≤ ((s[i]'h0).toNat : Int) ∧ ((s[i]'h0).toNat : Int) ≤ 193) ∨ (245 : Int) ≤ ((s[i]'h0).toNat : Int)) :
    Calls Tryd.prog 12 #[.string s, .int .i64 (i : Int)] w fun e w' => e = .returned (zret (Utf8.decode s i)) ∧ w' = w := by
  have hD : Utf8.decode s i = (65533, 1) := by
    have hlt := (s[i]'h0).toNat_lt
    rw [dec_at, get_lt s i h0]; unfold Lib.decodeN; repeat' split
    all_goals first | rfl | omega
  rw [hD, zret_bad]
  have hi : (i : Int) < (s.size : Int) := by omega
  clear hD
  rcases a with ⟨a1, a2⟩ | a1
  all_goals
    go_enter Tryd.func12, Tryd.ntmps12
    go_wp2
    go_ret3
    exact ⟨rfl, rfl⟩

theorem dec_any (s : ByteArray) (i : Nat) (w : World) (hs : s.size ≤ 1048576) (h0 : i < s.size) :
    Calls Tryd.prog 12 #[.string s, .int .i64 (i : Int)] w fun e w' => e = .returned (zret (Utf8.decode s i)) ∧ w' = w := by
  have hlt := (s[i]'h0).toNat_lt
  by_cases c1 : ((s[i]'h0).toNat : Int) < 128
  · exact dec_ascii s i w hs h0 c1
  by_cases c2 : ((128 : Int) ≤ ((s[i]'h0).toNat : Int) ∧ ((s[i]'h0).toNat : Int) ≤ 193) ∨ (245 : Int) ≤ ((s[i]'h0).toNat : Int)
  · exact dec_other s i w hs h0 c2
  by_cases k2 : ((s[i]'h0).toNat : Int) ≤ 223
  · by_cases hl : i + 2 ≤ s.size
    · by_cases hb : ((s[i + 1]'(by omega)).toNat : Int) < 128 ∨ (191 : Int) < ((s[i + 1]'(by omega)).toNat : Int)
      · exact dec_two_b1 s i w hs h0 (by omega) (by omega) hl hb
      · exact dec_two_ok s i w hs h0 (by omega) (by omega) hl (by omega) (by omega)
    · exact dec_two_short s i w hs h0 (by omega) (by omega) (by omega)
  by_cases k3 : ((s[i]'h0).toNat : Int) ≤ 239
  · by_cases hl : i + 3 ≤ s.size
    · by_cases hb2 : ((s[i + 2]'(by omega)).toNat : Int) < 128 ∨ (191 : Int) < ((s[i + 2]'(by omega)).toNat : Int)
      · by_cases e0 : ((s[i]'h0).toNat : Int) = 224
        · by_cases hb : ((s[i + 1]'(by omega)).toNat : Int) < 160 ∨ (191 : Int) < ((s[i + 1]'(by omega)).toNat : Int)
          · exact dec_e0_b1 s i w hs h0 (by omega) (by omega) hl hb
          · exact dec_e0_b2 s i w hs h0 (by omega) (by omega) hl (by omega) (by omega) hb2
        by_cases e1 : ((s[i]'h0).toNat : Int) ≤ 236
        · by_cases hb : ((s[i + 1]'(by omega)).toNat : Int) < 128 ∨ (191 : Int) < ((s[i + 1]'(by omega)).toNat : Int)
          · exact dec_e1_b1 s i w hs h0 (by omega) (by omega) hl hb
          · exact dec_e1_b2 s i w hs h0 (by omega) (by omega) hl (by omega) (by omega) hb2
        by_cases ed : ((s[i]'h0).toNat : Int) = 237
        · by_cases hb : ((s[i + 1]'(by omega)).toNat : Int) < 128 ∨ (159 : Int) < ((s[i + 1]'(by omega)).toNat : Int)
          · exact dec_ed_b1 s i w hs h0 (by omega) (by omega) hl hb
          · exact dec_ed_b2 s i w hs h0 (by omega) (by omega) hl (by omega) (by omega) hb2
        · by_cases hb : ((s[i + 1]'(by omega)).toNat : Int) < 128 ∨ (191 : Int) < ((s[i + 1]'(by omega)).toNat : Int)
          · exact dec_ee_b1 s i w hs h0 (by omega) (by omega) hl hb
          · exact dec_ee_b2 s i w hs h0 (by omega) (by omega) hl (by omega) (by omega) hb2
      · by_cases e0 : ((s[i]'h0).toNat : Int) = 224
        · by_cases hb : ((s[i + 1]'(by omega)).toNat : Int) < 160 ∨ (191 : Int) < ((s[i + 1]'(by omega)).toNat : Int)
          · exact dec_e0_b1 s i w hs h0 (by omega) (by omega) hl hb
          · exact dec_e0_ok s i w hs h0 (by omega) (by omega) hl (by omega) (by omega) (by omega) (by omega)
        by_cases e1 : ((s[i]'h0).toNat : Int) ≤ 236
        · by_cases hb : ((s[i + 1]'(by omega)).toNat : Int) < 128 ∨ (191 : Int) < ((s[i + 1]'(by omega)).toNat : Int)
          · exact dec_e1_b1 s i w hs h0 (by omega) (by omega) hl hb
          · exact dec_e1_ok s i w hs h0 (by omega) (by omega) hl (by omega) (by omega) (by omega) (by omega)
        by_cases ed : ((s[i]'h0).toNat : Int) = 237
        · by_cases hb : ((s[i + 1]'(by omega)).toNat : Int) < 128 ∨ (159 : Int) < ((s[i + 1]'(by omega)).toNat : Int)
          · exact dec_ed_b1 s i w hs h0 (by omega) (by omega) hl hb
          · exact dec_ed_ok s i w hs h0 (by omega) (by omega) hl (by omega) (by omega) (by omega) (by omega)
        · by_cases hb : ((s[i + 1]'(by omega)).toNat : Int) < 128 ∨ (191 : Int) < ((s[i + 1]'(by omega)).toNat : Int)
          · exact dec_ee_b1 s i w hs h0 (by omega) (by omega) hl hb
          · exact dec_ee_ok s i w hs h0 (by omega) (by omega) hl (by omega) (by omega) (by omega) (by omega)
    · by_cases e0 : ((s[i]'h0).toNat : Int) = 224
      · exact dec_e0_short s i w hs h0 (by omega) (by omega) (by omega)
      by_cases e1 : ((s[i]'h0).toNat : Int) ≤ 236
      · exact dec_e1_short s i w hs h0 (by omega) (by omega) (by omega)
      by_cases ed : ((s[i]'h0).toNat : Int) = 237
      · exact dec_ed_short s i w hs h0 (by omega) (by omega) (by omega)
      · exact dec_ee_short s i w hs h0 (by omega) (by omega) (by omega)
  by_cases hl : i + 4 ≤ s.size
  · by_cases f0 : ((s[i]'h0).toNat : Int) = 240
    · by_cases hb : ((s[i + 1]'(by omega)).toNat : Int) < 144 ∨ (191 : Int) < ((s[i + 1]'(by omega)).toNat : Int)
      · exact dec_f0_b1 s i w hs h0 (by omega) (by omega) hl hb
      by_cases hb2 : ((s[i + 2]'(by omega)).toNat : Int) < 128 ∨ (191 : Int) < ((s[i + 2]'(by omega)).toNat : Int)
      · exact dec_f0_b2 s i w hs h0 (by omega) (by omega) hl (by omega) (by omega) hb2
      by_cases hb3 : ((s[i + 3]'(by omega)).toNat : Int) < 128 ∨ (191 : Int) < ((s[i + 3]'(by omega)).toNat : Int)
      · exact dec_f0_b3 s i w hs h0 (by omega) (by omega) hl (by omega) (by omega) (by omega) (by omega) hb3
      · exact dec_f0_ok s i w hs h0 (by omega) (by omega) hl (by omega) (by omega) (by omega) (by omega) (by omega) (by omega)
    by_cases f1 : ((s[i]'h0).toNat : Int) ≤ 243
    · by_cases hb : ((s[i + 1]'(by omega)).toNat : Int) < 128 ∨ (191 : Int) < ((s[i + 1]'(by omega)).toNat : Int)
      · exact dec_f1_b1 s i w hs h0 (by omega) (by omega) hl hb
      by_cases hb2 : ((s[i + 2]'(by omega)).toNat : Int) < 128 ∨ (191 : Int) < ((s[i + 2]'(by omega)).toNat : Int)
      · exact dec_f1_b2 s i w hs h0 (by omega) (by omega) hl (by omega) (by omega) hb2
      by_cases hb3 : ((s[i + 3]'(by omega)).toNat : Int) < 128 ∨ (191 : Int) < ((s[i + 3]'(by omega)).toNat : Int)
      · exact dec_f1_b3 s i w hs h0 (by omega) (by omega) hl (by omega) (by omega) (by omega) (by omega) hb3
      · exact dec_f1_ok s i w hs h0 (by omega) (by omega) hl (by omega) (by omega) (by omega) (by omega) (by omega) (by omega)
    · by_cases hb : ((s[i + 1]'(by omega)).toNat : Int) < 128 ∨ (143 : Int) < ((s[i + 1]'(by omega)).toNat : Int)
      · exact dec_f4_b1 s i w hs h0 (by omega) (by omega) hl hb
      by_cases hb2 : ((s[i + 2]'(by omega)).toNat : Int) < 128 ∨ (191 : Int) < ((s[i + 2]'(by omega)).toNat : Int)
      · exact dec_f4_b2 s i w hs h0 (by omega) (by omega) hl (by omega) (by omega) hb2
      by_cases hb3 : ((s[i + 3]'(by omega)).toNat : Int) < 128 ∨ (191 : Int) < ((s[i + 3]'(by omega)).toNat : Int)
      · exact dec_f4_b3 s i w hs h0 (by omega) (by omega) hl (by omega) (by omega) (by omega) (by omega) hb3
      · exact dec_f4_ok s i w hs h0 (by omega) (by omega) hl (by omega) (by omega) (by omega) (by omega) (by omega) (by omega)
  · by_cases f0 : ((s[i]'h0).toNat : Int) = 240
    · exact dec_f0_short s i w hs h0 (by omega) (by omega) (by omega)
    by_cases f1 : ((s[i]'h0).toNat : Int) ≤ 243
    · exact dec_f1_short s i w hs h0 (by omega) (by omega) (by omega)
    · exact dec_f4_short s i w hs h0 (by omega) (by omega) (by omega)
end Go.Proofs.Qxb6603659aDoor
