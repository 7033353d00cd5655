/-
  Slices that are read: what is known of them; zzb1StrBytes, the clones.
-/
import Derived.Test.Qxb6603875aDoorRows
import Derived.WalkKit
import Derived.WalkSpells
import Derived.WalkLawsBesides
import Derived.Deep.OwnRows
import Derived.Deep.QuietTactic
import Derived.Maps.Own
import Derived.Maps.OwnOps
namespace Go.Proofs.Qxb6603875aDoor
open Go.RowKit
set_option linter.unusedVariables false

def IsStr (x : Value) : Prop := ∃ s : ByteArray, x = .string s ∧ s.size ≤ maxLen
def IsInt (x : Value) : Prop := ∃ z : Int, x = .int .i64 z ∧ -9223372036854775808 ≤ z ∧ z ≤ 9223372036854775807
def IsFlt (x : Value) : Prop := ∃ b : Nat, x = .float .f64 b

/-- v is a slice of len one-cell elements, each of them Q -/
def SlAt (Q : Value → Prop) (w : World) (v : Value) (len : Nat) : Prop :=
  ∃ a cap, v = .slice a len cap ∧ (len = 0 ∨ ∃ b off, a = some ⟨b, off, none⟩ ∧ b < w.heap.size ∧ ∀ j, j < len → ∃ x, w.cell? ⟨b, off + j, none⟩ = some x ∧ Q x)

theorem SlAt.below {Q : Value → Prop} {w w' : World} {v : Value} {len : Nat} (h : SlAt Q w v len) (hb : Below w.heap.size w w') : SlAt Q w' v len := by
  obtain ⟨a, cap, rfl, h⟩ := h
  refine ⟨a, cap, rfl, ?_⟩
  rcases h with h | ⟨b, off, rfl, hlt, hc⟩
  · exact Or.inl h
  · refine Or.inr ⟨b, off, rfl, Nat.lt_of_lt_of_le hlt hb.size, fun j hj => ?_⟩
    obtain ⟨x, hx, q⟩ := hc j hj
    exact ⟨x, (hb.cell (by exact hlt)).trans hx, q⟩

/-- the call answers a slice of the same make, and nothing old has turned -/
def AnsS (Q : Value → Prop) (w : World) (len : Nat) : Ending → World → Prop := fun e w' => ∃ v, e = .returned v ∧ SlAt Q w' v len ∧ Below w.heap.size w w'
/-- the call answers some integer and leaves the world alone -/
def AnsI (w : World) : Ending → World → Prop := fun e w' => ∃ z : Int, e = .returned (.int .i64 z) ∧ w' = w
/-- the call answers some bool and leaves the world alone -/
def AnsB (w : World) : Ending → World → Prop := fun e w' => ∃ b : Bool, e = .returned (.bool b) ∧ w' = w

theorem Tryd.info9 : (Tryd.prog.info? 9).map (fun i => (i.zero, i.size, i.bytes)) = some (some (.string ⟨#[]⟩), 1, 16) := by kernel_rfl
theorem Tryd.info3 : (Tryd.prog.info? 3).map (fun i => (i.zero, i.size, i.bytes)) = some (some (.int .i64 0), 1, 8) := by kernel_rfl
theorem Tryd.info40 : (Tryd.prog.info? 40).map (fun i => (i.zero, i.size, i.bytes)) = some (some (.float .f64 0), 1, 8) := by kernel_rfl

set_option maxRecDepth 100000 in
set_option maxHeartbeats 1000000 in
theorem strBytes_any (v : Value) (len : Nat) (w : World) (h : SlAt IsStr w v len) (hlen : len ≤ 9223372036854775807) : Calls Tryd.prog 9 #[v] w (AnsI w) := by
  obtain ⟨a, cap, rfl, h⟩ := h
  rcases h with h0 | ⟨b, off, rfl, hlt, hc⟩
  · subst h0
    go_enter Tryd.func9, Tryd.ntmps9
    go_wp2
    refine wp_loop_rounds 1 ?_
    rw [rounds_succ]
    go_wp2
    go_ret
    exact ⟨_, rfl, rfl⟩
  · have HC : Hid (∀ j, j < len → ∃ x, w.cell? ⟨b, off + j, none⟩ = some x ∧ IsStr x) := hc
    clear hc
    go_enter Tryd.func9, Tryd.ntmps9
    go_wp2
    go_loop [3, 4] (fun n i => ∃ (k : Nat) (z : Int), k ≤ len ∧ i = .int .i64 k ∧ n = .int .i64 z) (fun _ i => len - (intOf i).toNat)
    case atStart => exact ⟨0, 0, Nat.zero_le _, rfl, rfl⟩
    case round =>
      obtain ⟨k, z, hk, rfl, rfl⟩ := hrel
      by_cases hkl : k < len
      · obtain ⟨x, hx, s, rfl, hs⟩ := HC.out k hkl
        unfold maxLen at hs
        go_wp2
        all_goals first
          | (go_ret; exact ⟨_, rfl, rfl⟩)
          | exact ⟨⟨k + 1, _, by omega, by go_num, rfl⟩, by simp [intOf]; omega⟩
      · go_wp2
        go_ret
        exact ⟨_, rfl, rfl⟩
end Go.Proofs.Qxb6603875aDoor
