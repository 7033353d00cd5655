/-
  zzBytes_FnSampleEstimateTextComparison; zzb1Counts.
-/
import Derived.Test.Qxb6603875aDoorV2
namespace Go.Proofs.Qxb6603875aDoor
open Go.RowKit Go.Maps Go.WideMaps
set_option linter.unusedVariables false

set_option maxRecDepth 100000 in
set_option maxHeartbeats 1000000 in
theorem zzBytes_any (v0 v1 v2 v4 v5 : Value) (n0 n1 n2 n4 n5 : Nat) (c3 c6 c7 c8 : Int) (w : World) (h0 : SlAt IsFlt w v0 n0) (h1 : SlAt IsStr w v1 n1) (h2 : SlAt IsInt w v2 n2) (h4 : SlAt IsStr w v4 n4) (h5 : SlAt IsInt w v5 n5)
    (b1 : n1 ≤ 9223372036854775807) (b4 : n4 ≤ 9223372036854775807) :
    Calls Tryd.prog 24 #[v0, v1, v2, .int .i64 c3, v4, v5, .int .i64 c6, .int .u8 c7, .int .u8 c8] w (AnsB w) := by
  obtain ⟨a0, cap0, rfl, h0⟩ := h0
  obtain ⟨a1, cap1, rfl, h1⟩ := h1
  obtain ⟨a2, cap2, rfl, h2⟩ := h2
  obtain ⟨a4, cap4, rfl, h4⟩ := h4
  obtain ⟨a5, cap5, rfl, h5⟩ := h5
  have H1 : Hid _ := h1
  have H4 : Hid _ := h4
  clear h0 h1 h2 h4 h5
  go_enter Tryd.func24, Tryd.ntmps24
  go_wp2
  all_goals first
    | (go_ret; exact ⟨_, rfl, rfl⟩)
    | skip
  go_loop [19, 20] (fun n i => ∃ (k : Nat) (z : Int), k ≤ n1 ∧ i = .int .i64 k ∧ n = .int .i64 z) (fun _ i => n1 - (intOf i).toNat)
  case atStart => exact ⟨0, _, Nat.zero_le _, rfl, rfl⟩
  case round =>
    obtain ⟨k, z, hk, rfl, rfl⟩ := hrel
    by_cases hkl : k < n1
    · rcases H1.out with e | ⟨b, off, rfl, hlt, hc⟩
      · exact absurd hkl (by omega)
      · obtain ⟨x, hx, s, rfl, hs⟩ := hc k hkl
        unfold maxLen at hs
        clear hc H4
        go_wp2
        all_goals first
          | (go_ret; exact ⟨_, rfl, rfl⟩)
          | exact ⟨⟨k + 1, _, by omega, by go_num, rfl⟩, by simp [intOf]; omega⟩
    · go_wp2
      all_goals first
        | (go_ret; exact ⟨_, rfl, rfl⟩)
        | skip
      go_loop [19, 21] (fun n i => ∃ (k : Nat) (z : Int), k ≤ n4 ∧ i = .int .i64 k ∧ n = .int .i64 z) (fun _ i => n4 - (intOf i).toNat)
      case atStart => exact ⟨0, _, Nat.zero_le _, rfl, rfl⟩
      case round =>
        obtain ⟨k, z, hk, rfl, rfl⟩ := hrel
        by_cases hkl : k < n4
        · rcases H4.out with e | ⟨b, off, rfl, hlt, hc⟩
          · exact absurd hkl (by omega)
          · obtain ⟨x, hx, s, rfl, hs⟩ := hc k hkl
            unfold maxLen at hs
            clear hc
            go_wp2
            all_goals first
              | (go_ret; exact ⟨_, rfl, rfl⟩)
              | exact ⟨⟨k + 1, _, by omega, by go_num, rfl⟩, by simp [intOf]; omega⟩
        · go_wp2
          all_goals
            go_ret
            exact ⟨_, rfl, rfl⟩
end Go.Proofs.Qxb6603875aDoor
