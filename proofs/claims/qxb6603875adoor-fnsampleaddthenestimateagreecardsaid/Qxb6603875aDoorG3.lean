/-
  For statement 5: zzBytes_FnSampleAddThenEstimateAgree.
-/
import Derived.Test.Qxb6603875aDoorG2
namespace Go.Proofs.Qxb6603875aDoor
open Go.RowKit
set_option linter.unusedVariables false

def AnsBQ (Q : Prop) (w : World) : Ending → World → Prop := fun e w' => ∃ b : Bool, e = .returned (.bool b) ∧ w' = w ∧ (b = true → Q)

set_option maxRecDepth 100000 in
set_option maxHeartbeats 2000000 in
theorem zzBytes5_any (v0 v1 : Value) (p : ByteArray) (n0 len : Nat) (w : World) (h0 : SlAt IsByte w v0 n0) (h1 : LstAt w v1 len 9223372036854775807) (bl : len ≤ 9223372036854775807) (bp : p.size ≤ 9223372036854775807) :
    Calls Tryd.prog 20 #[v0, v1, .string p] w (AnsBQ (LstAt w v1 len 1048576) w) := by
  obtain ⟨a0, cap0, rfl, -⟩ := h0
  obtain ⟨a1, cap1, rfl, h1⟩ := h1
  have H1 : Hid _ := h1
  clear h1
  go_enter Tryd.func20, Tryd.ntmps20
  go_wp2
  all_goals first
    | (go_ret; exact ⟨false, rfl, rfl, by intro h; cases h⟩)
    | skip
  go_loop [7, 8, 9] (fun n i _ => ∃ (k : Nat) (z : Int), k ≤ len ∧ i = .int .i64 k ∧ n = .int .i64 z ∧ Hid (∀ b off, a1 = some (⟨b, off, none⟩ : Addr) → ∀ j, j < k → ∃ x n, w.cell? ⟨b, off + j, none⟩ = some x ∧ SlAt IsStr w x n ∧ n ≤ 1048576)) (fun _ i _ => len - (intOf i).toNat)
  case atStart => exact ⟨0, _, Nat.zero_le _, rfl, rfl, fun b off _ j hj => absurd hj (Nat.not_lt_zero _)⟩
  case round =>
    obtain ⟨k, z, hk, rfl, rfl, HK⟩ := hrel
    by_cases hkl : k < len
    · rcases H1.out with e | ⟨b, off, rfl, hlt, hc⟩
      · exact absurd hkl (by omega)
      · obtain ⟨x, n, hx, hS, hn⟩ := hc k hkl
        have HS : Hid (SlAt IsStr w x n) := hS
        have HX : Hid (w.cell? ⟨b, off + k, none⟩ = some x) := hx
        obtain ⟨xa, xc, rfl, hxs⟩ := hS
        have HXS : Hid _ := hxs
        clear hc hxs
        go_wp2
        all_goals first
          | (go_ret; exact ⟨false, rfl, rfl, by intro h; cases h⟩)
          | skip
        have hnb : n ≤ 1048576 := by omega
        have HK' : Hid (∀ b' off', some (⟨b, off, none⟩ : Addr) = some (⟨b', off', none⟩ : Addr) → ∀ j, j < k + 1 → ∃ x n, w.cell? ⟨b', off' + j, none⟩ = some x ∧ SlAt IsStr w x n ∧ n ≤ 1048576) := by
          intro b' off' hbo j hj
          by_cases hjk : j < k
          · exact HK.out b' off' hbo j hjk
          · have : j = k := by omega
            subst this
            cases hbo
            exact ⟨_, n, HX.out, HS.out, hnb⟩
        clear HK
        go_loop [7, 9] (fun m i => ∃ (l : Nat) (y : Int), l ≤ n ∧ i = .int .i64 l ∧ m = .int .i64 y) (fun _ i => n - (intOf i).toNat)
        case atStart => exact ⟨0, _, Nat.zero_le _, rfl, rfl⟩
        case round =>
          obtain ⟨l, y, hl, rfl, rfl⟩ := hrel
          by_cases hll : l < n
          · rcases HXS.out with e | ⟨bx, ox, rfl, hlx, hcx⟩
            · exact absurd hll (by omega)
            · obtain ⟨xx, hxx, s, rfl, hs⟩ := hcx l hll
              unfold maxLen at hs
              clear hcx
              go_wp2
              all_goals first
                | (go_ret; exact ⟨false, rfl, rfl, by intro h; cases h⟩)
                | exact ⟨⟨l + 1, _, by omega, by go_num, rfl⟩, by simp [intOf]; omega⟩
          · go_wp2
            exact ⟨⟨k + 1, _, by omega, by go_num, rfl, HK'⟩, by simp [intOf]; omega⟩
    · have hkk : k = len := by omega
      have HF : Hid (LstAt w (.slice a1 len cap1) len 1048576) := by
        refine ⟨_, _, rfl, ?_⟩
        rcases H1.out with e | ⟨b, off, rfl, hlt, hc⟩
        · exact Or.inl e
        · exact Or.inr ⟨b, off, rfl, hlt, fun j hj => HK.out b off rfl j (by omega)⟩
      clear HK H1
      go_wp2
      all_goals first
        | (go_ret; exact ⟨false, rfl, rfl, by intro h; cases h⟩)
        | (go_ret; exact ⟨true, rfl, rfl, fun _ => HF.out⟩)
end Go.Proofs.Qxb6603875aDoor
