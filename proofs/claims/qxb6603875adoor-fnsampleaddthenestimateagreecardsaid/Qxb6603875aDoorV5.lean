/-
  Value.Number, Value.Text at the zero Value; zzAtom.
-/
import Derived.Test.Qxb6603875aDoorV4
import Derived.BigQuiet
namespace Go.Proofs.Qxb6603875aDoor
open Go.RowKit Go.Maps Go.WideMaps
set_option linter.unusedVariables false

/-- the zero value.Value -/
def zeroV : Array Value := #[.string ⟨#[]⟩, .float .f64 0, .int .i64 0, .int .i32 0, .int .u8 0, .bool false, .bool false, .bool false]

/-- the call answers v, and nothing old has turned -/
def AnsV (v : Value) (w : World) : Ending → World → Prop := fun e w' => e = .returned v ∧ Below w.heap.size w w'

set_option maxRecDepth 100000 in
set_option maxHeartbeats 1000000 in
theorem number_zero (w : World) : Calls Tryd.prog 33 #[.agg #[.string ⟨#[]⟩, .float .f64 0, .int .i64 0, .int .i32 0, .int .u8 0, .bool false, .bool false, .bool false]] w (AnsV (.tuple #[.float .f64 0, .bool false]) w) := by
  go_enter Tryd.func33, Tryd.ntmps33
  go_wp2
  go_quiet (fail)
  go_wp2
  go_ret2
  exact ⟨rfl, Go.below_drewN ((Below.refl _ _).alloc (Nat.le_refl _) _) _⟩

set_option maxRecDepth 100000 in
set_option maxHeartbeats 1000000 in
theorem text_zero (w : World) : Calls Tryd.prog 32 #[.agg #[.string ⟨#[]⟩, .float .f64 0, .int .i64 0, .int .i32 0, .int .u8 0, .bool false, .bool false, .bool false]] w (AnsV (.string ⟨#[]⟩) w) := by
  go_enter Tryd.func32, Tryd.ntmps32
  go_wp2
  go_ret
  exact ⟨rfl, (Below.refl _ _).alloc (Nat.le_refl _) _⟩
end Go.Proofs.Qxb6603875aDoor
