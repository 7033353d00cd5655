/-
  For statement 5: estimate at a contains atom of one word.
-/
import Derived.Test.Qxb6603875aDoorG12
namespace Go.Proofs.Qxb6603875aDoor
open Go.RowKit Go.Maps Go.WideMaps
set_option linter.unusedVariables false

set_option maxRecDepth 100000 in
set_option maxHeartbeats 1000000 in
theorem estimate_word (S A Bw n Pb po : Nat) (con h : Int) (p : ByteArray) (D : DataW Unit) (r : Nat) (cap : Nat) (w : World)
    (k3 : w.cell? ⟨S, 3, none⟩ = some (.map (some Bw))) (k4 : w.cell? ⟨S, 4, none⟩ = some (.int .i64 con)) (a0 : w.cell? ⟨A, 0, none⟩ = some (.int .u8 2)) (a11 : w.cell? ⟨A, 11, none⟩ = some (.slice (some ⟨Pb, po, none⟩) 1 cap)) (hp : w.cell? ⟨Pb, po, none⟩ = some (.string p)) (hps : p.size ≤ maxLen)
    (hM : MapAt w Bw n D) (hD : HoldsAt D p h) (hr : floatBits .quo .f64 (floatOfInt .f64 h) (floatOfInt .f64 con) = some r) (hm : floatBits .mul .f64 4607182418800017408 r = some r) :
    Calls Tryd.prog 29 #[.pointer (some ⟨S, 0, none⟩), .pointer (some ⟨A, 0, none⟩)] w (AnsV (.float .f64 r) w) := by
  have hlk : ∀ m : Nat, (Instr.lookup 35 (.map (some Bw)) (.string p) false).run Tryd.prog (w.drewN m) = .ok (.int .i64 h) (w.drewN m) := by
    intro m
    obtain ⟨c, hlk, hc, _⟩ := look_at (hM.below (below_drewN' w m)) p hps
    rw [holdsAt_one hD hc]
    exact hlk
  have hd := fun (w : World) => run_float_arith (P := Tryd.prog) w .quo 40 .f64 _ _ _ hr
  have hx := fun (w : World) => run_float_arith (P := Tryd.prog) w .mul 40 .f64 _ _ _ hm
  clear hM hD hr hm hps
  go_enter Tryd.func29, Tryd.ntmps29
  go_wp2
  refine wp_loop_rounds 2 ?_
  rw [rounds_succ]
  go_wp2
  go_quiet (fail)
  go_wp2
  rw [rounds_succ]
  go_wp2
  go_ret
  exact ⟨rfl, Go.below_drewN (Below.refl _ _) _⟩
end Go.Proofs.Qxb6603875aDoor
