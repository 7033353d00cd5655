/-
  zzCfgBytes, ZZNewConfig, zzCfgName.
-/
import Derived.Test.Qxb6604153aDoorN1
namespace Go.Proofs.Qxb6604153aDoor
open Go.RowKit
set_option linter.unusedVariables false

/-- the call answers some integer -/
def AnsI (w : World) : Ending → World → Prop := fun e w' => ∃ z : Int, e = .returned (.int .i64 z) ∧ Below w.heap.size w w'

theorem RecAt.alike {w w' : World} {b o : Nat} {r : Rec} (h : RecAt w b o r) (hh : w'.heap = w.heap) : RecAt w' b o r := by
  obtain ⟨c0, c1, c2, c3, c4⟩ := h
  unfold World.cell? at *
  rw [← hh] at c0 c1 c2 c3 c4
  exact ⟨c0, c1, c2, c3, c4⟩

set_option maxRecDepth 100000 in
set_option maxHeartbeats 2000000 in
theorem cfgBytes_any (v : Value) (rs : List Rec) (w : World) (h : RecsAt w v rs) (hs : ∀ j, j < rs.length → (recAt rs j).Small 1048576) (bl : rs.length ≤ 4096) :
    Calls Tryd.prog 5 #[v] w (AnsI w) := by
  obtain ⟨a, cap, rfl, h⟩ := h
  have H : Hid _ := h
  have HS : Hid _ := hs
  clear h hs
  generalize hn : rs.length = n at *
  go_enter Tryd.func5, Tryd.ntmps5
  go_wp2
  go_loopw [3, 4] (fun z i wr => ∃ (k m : Nat) (y : Int), k ≤ n ∧ i = .int .i64 k ∧ z = .int .i64 y ∧ wr = w.drewN m) (fun _ i _ => n - (intOf i).toNat)
  case atStart => exact ⟨0, 0, _, Nat.zero_le _, rfl, rfl, rfl⟩
  case round =>
    obtain ⟨k, m, y, hk, rfl, rfl, rfl⟩ := hrel
    by_cases hkl : k < n
    · rcases H.out with e | ⟨b, off, rfl, hlt, hc⟩
      · exact absurd hkl (by omega)
      · obtain ⟨c0, c1, c2, c3, c4⟩ := hc k hkl
        obtain ⟨s0, s1, s2, s3⟩ := HS.out k hkl
        clear hc
        generalize recAt rs k = r at *
        go_wp2
        go_quiet (fail)
        go_wp2
        go_roundw
        case rel => exact ⟨k + 1, _, _, by omega, by go_num, rfl, rfl⟩
        case measure => simp [intOf]; omega
    · go_wp2
      go_ret
      exact ⟨_, rfl, Go.below_drewN (Below.refl _ _) _⟩
end Go.Proofs.Qxb6604153aDoor
