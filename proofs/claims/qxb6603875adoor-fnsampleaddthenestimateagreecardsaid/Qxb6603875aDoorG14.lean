/-
  For statement 5: estimate at a contains atom of one word where there is no contains atom: a NaN.
-/
import Derived.Test.Qxb6603875aDoorG13
namespace Go.Proofs.Qxb6603875aDoor
open Go.RowKit Go.Maps Go.WideMaps
set_option linter.unusedVariables false

theorem run_mul_nan' (w : World) (b : Nat) (h : FloatKind.f64.format.mul 4607182418800017408 b = none) : (binOp .mul 40 (.float .f64 4607182418800017408) (.float .f64 b)).run Tryd.prog w = .ok (.float .f64 (nanAt w 4607182418800017408 b)) w.drew := by
  simp [binOp, Op.floatArith, h, Question.forced, nanAt]

theorem run_mul_nan (w w' : World) : (binOp .mul 40 (.float .f64 4607182418800017408) (.float .f64 (nanAt w' 0 0))).run Tryd.prog w = .ok (.float .f64 (nanAt w 4607182418800017408 (nanAt w' 0 0))) w.drew :=
  run_mul_nan' w _ (nan_mul _ _ (nan_cut _ _ _))

set_option maxRecDepth 100000 in
set_option maxHeartbeats 1000000 in
theorem estimate_word_nan (S A Bw n Pb po : Nat) (p : ByteArray) (D : DataW Unit) (cap : Nat) (w : World)
    (k3 : w.cell? ⟨S, 3, none⟩ = some (.map (some Bw))) (k4 : w.cell? ⟨S, 4, none⟩ = some (.int .i64 0)) (a0 : w.cell? ⟨A, 0, none⟩ = some (.int .u8 2)) (a11 : w.cell? ⟨A, 11, none⟩ = some (.slice (some ⟨Pb, po, none⟩) 1 cap)) (hp : w.cell? ⟨Pb, po, none⟩ = some (.string p)) (hps : p.size ≤ maxLen)
    (hM : MapAt w Bw n D) (hD : HoldsAt D p 0) :
    Calls Tryd.prog 29 #[.pointer (some ⟨S, 0, none⟩), .pointer (some ⟨A, 0, none⟩)] w (AnsNaN w) := by
  have HK : Hid (∀ w', w'.heap = w.heap → (fun w' => w'.cell? ⟨S, 3, none⟩ = some (.map (some Bw)) ∧ w'.cell? ⟨S, 4, none⟩ = some (.int .i64 0) ∧ (Instr.lookup 35 (.map (some Bw)) (.string p) false).run Tryd.prog w' = .ok (.int .i64 0) w') w') := by
    intro w' e
    have hM' : MapAt w' Bw n D := by
      obtain ⟨es, clock, hbk, F, hs, hDD⟩ := hM
      exact ⟨es, clock, by rw [e]; exact hbk, F, hs, hDD⟩
    obtain ⟨c, hlk, hc, _⟩ := look_at hM' p hps
    rw [← holdsAt_one hD hc] at hlk
    exact ⟨(World.cell?_of_block (w := w) (by rw [e])).trans k3, (World.cell?_of_block (w := w) (by rw [e])).trans k4, hlk⟩
  have hd := run_quo_nan
  have hx := run_mul_nan
  have hz := fl_zero
  clear hM hD hps
  go_enter Tryd.func29, Tryd.ntmps29
  go_wp2
  refine wp_loop_rounds 2 ?_
  rw [rounds_succ]
  go_wp2
  go_region_held (fun w' => w'.cell? ⟨S, 3, none⟩ = some (.map (some Bw)) ∧ w'.cell? ⟨S, 4, none⟩ = some (.int .i64 0) ∧ (Instr.lookup 35 (.map (some Bw)) (.string p) false).run Tryd.prog w' = .ok (.int .i64 0) w') (exact HK.out _ rfl) (fail)
  rename_i hHeld
  clear hHeld
  go_wp2
  rw [rounds_succ]
  go_wp2
  go_ret
  exact ⟨_, rfl, nan_cut _ _ _, (Below.refl _ _).drew.drew.drew⟩
end Go.Proofs.Qxb6603875aDoor
