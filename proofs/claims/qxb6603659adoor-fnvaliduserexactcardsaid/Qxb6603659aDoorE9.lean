/-
  zzValidUTF8 and zzUserModel, over any contract of zzDecode.
-/
import Derived.Test.Qxb6603659aDoorE6
import Derived.Lib.MapLaws
namespace Go.Proofs.Qxb6603659aDoor
open Go.RowKit
set_option linter.unusedVariables false

/-- zzDecode's contract at s -/
def DecAt (s : ByteArray) : Prop := ∀ (i : Nat) (w : World), i < s.size → Calls Tryd.prog 12 #[.string s, .int .i64 (i : Int)] w fun e w' => e = .returned (zret (Utf8.decode s i)) ∧ w' = w

theorem drop_ne (s : ByteArray) (pos : Nat) (h : pos < s.size) : s.data.toList.drop pos ≠ [] := by
  intro e
  have := congrArg List.length e
  simp at this
  omega

theorem valid_at (s : ByteArray) (pos : Nat) (h : pos < s.size) :
    Lib.validD (s.data.toList.drop pos) = if Utf8.decode s pos = (65533, 1) then false else Lib.validD (s.data.toList.drop (pos + (Utf8.decode s pos).2)) := by
  rw [Lib.validD_step _ (drop_ne s pos h), Lib.decodeL_drop, List.drop_drop]
  by_cases hd : Utf8.decode s pos = (65533, 1)
  · rw [if_pos hd, if_pos (by rw [hd]; exact ⟨rfl, rfl⟩)]
  · rw [if_neg hd, if_neg (fun hh => hd (Prod.ext hh.1 hh.2))]

theorem width_in (s : ByteArray) (pos : Nat) (h : pos < s.size) : pos + (Utf8.decode s pos).2 ≤ s.size := by
  have := Lib.decodeL_le _ (drop_ne s pos h)
  rw [Lib.decodeL_drop] at this
  simp at this
  omega

theorem zret_ok (d : Nat × Nat) (h : d ≠ (65533, 1)) : zret d = .tuple #[.int .i32 (d.1 : Int), .int .i64 (d.2 : Int), .bool true] := by
  unfold zret; rw [if_neg h]

set_option maxRecDepth 1000000 in
set_option maxHeartbeats 1000000 in
theorem validz_any (s : ByteArray) (w : World) (hs : s.size ≤ 1048576) (hD : DecAt s) :
    Calls Tryd.prog 11 #[.string s] w fun e w' => e = .returned (.bool (Lib.validD s.data.toList)) ∧ w' = w := by
  have HD : Hid (DecAt s) := hD
  clear hD
  generalize hv : Lib.validD s.data.toList = v
  have HV : Hid (Lib.validD s.data.toList = v) := hv
  clear hv
  go_enter Tryd.func11, Tryd.ntmps11
  go_wp2
  go_loop [3, 4, 5, 6] (fun i _ _ _ => ∃ k : Nat, k ≤ s.size ∧ i = .int .i64 k ∧ Hid (Lib.validD (s.data.toList.drop k) = v)) (fun i _ _ _ => s.size - (intOf i).toNat)
  case atStart => exact ⟨0, Nat.zero_le _, rfl, HV⟩
  case round =>
    obtain ⟨k, hk, rfl, HK⟩ := hrel
    by_cases hlt : k < s.size
    · have hstep := valid_at s k hlt
      have hcall := HD.out k w hlt
      have hwi := width_in s k hlt
      have hwp := Lib.width_pos s k
      by_cases hd : Utf8.decode s k = (65533, 1)
      · rw [if_pos hd] at hstep
        rw [hd, zret_bad] at hcall
        have hvf : v = false := by rw [← HK.out, hstep]
        subst hvf
        have HC : Hid _ := hcall
        clear hcall hstep hwi hwp hd HK
        go_wp2_with (go_at_call 12; go_must (refine Calls.mono HC.out ?_); rintro e w' ⟨rfl, hw'⟩; obtain rfl := hw'.symm)
        go_ret
        exact ⟨rfl, rfl⟩
      · rw [if_neg hd] at hstep
        rw [zret_ok _ hd] at hcall
        generalize Utf8.decode s k = D at *
        obtain ⟨c, n⟩ := D
        simp only at hcall hstep hwi hwp
        have HC : Hid _ := hcall
        have HS : Hid (Lib.validD (s.data.toList.drop (k + n)) = v) := by show _ = _; rw [← HK.out, hstep]
        clear hcall hstep hd HK
        have hsum : (k : Int) + (n : Int) ≤ 1048576 := by omega
        go_wp2_with (go_at_call 12; go_must (refine Calls.mono HC.out ?_); rintro e w' ⟨rfl, hw'⟩; obtain rfl := hw'.symm)
        exact ⟨⟨k + n, hwi, by go_num, HS⟩, by simp [intOf]; omega⟩
    · have hvt : v = true := by
        rw [← HK.out, List.drop_eq_nil_of_le (by simp; omega)]; rfl
      subst hvt
      clear HK
      go_wp2
      go_ret
      exact ⟨rfl, rfl⟩
end Go.Proofs.Qxb6603659aDoor
