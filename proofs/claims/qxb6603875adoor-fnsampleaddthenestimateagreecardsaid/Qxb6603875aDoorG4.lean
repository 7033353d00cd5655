/-
  For statement 5: zzb1SameFloat.
-/
import Derived.Test.Qxb6603875aDoorG1
import Derived.Test.Qxb6603875aDoorF5
namespace Go.Proofs.Qxb6603875aDoor
open Go.RowKit
set_option linter.unusedVariables false

/-- the call answers true and leaves the world alone -/
def AnsT (w : World) : Ending → World → Prop := fun e w' => e = .returned (.bool true) ∧ w' = w

set_option maxRecDepth 100000 in
theorem same_pos (r : Nat) (h1 : 4503599627370496 ≤ r) (h2 : r ≤ 1200 * 4503599627370496) (w : World) : Calls Tryd.prog 19 #[.float .f64 r, .float .f64 r] w (AnsT w) := by
  have o1 : FloatKind.f64.format.order r r = some .eq := order_eq (by omega)
  have o2 : FloatKind.f64.format.order r 0 = some .gt := order_gt (by omega) (by decide) (by omega)
  go_enter Tryd.func19, Tryd.ntmps19
  go_wp2
  go_ret
  exact ⟨by first | rfl | simp [o1], rfl⟩

set_option maxRecDepth 100000 in
theorem same_zero (w : World) : Calls Tryd.prog 19 #[.float .f64 0, .float .f64 0] w (AnsT w) := by
  have o1 : FloatKind.f64.format.order 0 0 = some .eq := order_eq (by decide)
  have o2 := inf_self
  have hd := fun (w : World) => run_float_arith (P := Tryd.prog) w .quo 40 .f64 _ _ _ (show floatBits .quo .f64 4607182418800017408 0 = some 9218868437227405312 from one_over_zero)
  go_enter Tryd.func19, Tryd.ntmps19
  go_wp2
  go_ret
  exact ⟨by first | rfl | simp [o2], rfl⟩

set_option maxRecDepth 100000 in
theorem same_nan (a b : Nat) (ha : IsNaN a) (hb : IsNaN b) (w : World) : Calls Tryd.prog 19 #[.float .f64 a, .float .f64 b] w (AnsT w) := by
  have o1 : FloatKind.f64.format.order a a = none := nan_order a a ha
  have o2 : FloatKind.f64.format.order b b = none := nan_order b b hb
  go_enter Tryd.func19, Tryd.ntmps19
  go_wp2
  go_ret
  exact ⟨by first | rfl | simp [o1, o2], rfl⟩
end Go.Proofs.Qxb6603875aDoor
