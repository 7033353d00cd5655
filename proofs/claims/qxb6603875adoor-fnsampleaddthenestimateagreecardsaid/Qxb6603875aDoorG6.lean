/-
  For statement 5: (*sample).add.
-/
import Derived.Test.Qxb6603875aDoorV7
import Derived.Test.Qxb6603875aDoorG5
namespace Go.Proofs.Qxb6603875aDoor
open Go.RowKit Go.Maps Go.WideMaps
set_option linter.unusedVariables false

theorem obj_cell {w : World} {S : Nat} {cs : Array Value} {t : TypeId} (h : w.heap[S]? = some (.cells cs t)) (i : Nat) : w.cell? ⟨S, i, none⟩ = cs[i]? := by
  unfold World.cell?
  rw [h]
  rfl
theorem obj_frozen {w : World} {S : Nat} {cs : Array Value} {t : TypeId} (h : w.heap[S]? = some (.cells cs t)) (i : Nat) : w.frozen? ⟨S, i, none⟩ = false := by
  unfold World.frozen?
  rw [h]
  simp

set_option maxRecDepth 100000 in
theorem add_like (S A : Nat) (w : World) (hk : w.cell? ⟨A, 0, none⟩ = some (.int .u8 3)) :
    Calls Tryd.prog 28 #[.pointer (some ⟨S, 0, none⟩), .pointer (some ⟨A, 0, none⟩)] w (fun e w' => e = .returned undef ∧ w' = w) := by
  go_enter Tryd.func28, Tryd.ntmps28
  go_wp2
  go_end0
  exact ⟨rfl, rfl⟩
end Go.Proofs.Qxb6603875aDoor
