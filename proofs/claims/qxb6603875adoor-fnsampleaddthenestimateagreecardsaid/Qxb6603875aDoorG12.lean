/-
  For statement 5: estimate where nothing was compared: a NaN.
-/
import Derived.Test.Qxb6603875aDoorG11
import Derived.Test.Qxb6603875aDoorF5
namespace Go.Proofs.Qxb6603875aDoor
open Go.RowKit Go.Maps Go.WideMaps
set_option linter.unusedVariables false

/-- the NaN that the tape gives -/
def nanAt (w : World) (x y : Nat) : Nat := (Question.nanBits .f64 x y).cut (w.tape w.drawn (.nanBits .f64 x y))

theorem run_quo_nan (w : World) : (binOp .quo 40 (.float .f64 0) (.float .f64 0)).run Tryd.prog w = .ok (.float .f64 (nanAt w 0 0)) w.drew := by
  have h : FloatKind.f64.format.div 0 0 = none := zero_over_zero
  simp [binOp, Op.floatArith, h, Question.forced, nanAt]

def AnsNaN (w : World) : Ending → World → Prop := fun e w' => ∃ b, e = .returned (.float .f64 b) ∧ IsNaN b ∧ Below w.heap.size w w'

set_option maxRecDepth 100000 in
set_option maxHeartbeats 2000000 in
theorem estimate_nan1 (S A B n : Nat) (D : DataW Unit) (kind : Int) (w : World) (h : Reads w S A B n D 0 kind 1) (hk2 : kind ≠ 2) (hk3 : kind ≠ 3) (ht : Holds D 0) :
    Calls Tryd.prog 29 #[.pointer (some ⟨S, 0, none⟩), .pointer (some ⟨A, 0, none⟩)] w (AnsNaN w) := by
  have e2 : (kind == 2) = false := beq_eq_false_iff_ne.2 hk2
  have e3 : (kind == 3) = false := beq_eq_false_iff_ne.2 hk3
  have HH : Hid (Reads w S A B n D 0 kind 1) := h
  have HT : Hid (Holds D 0) := ht
  have hd := fun (w : World) => run_quo_nan w
  have hz := fl_zero
  clear ht hk2 hk3
  obtain ⟨_, _, _, _, hkind, _, c0, c1, c2, c3, c4, c5, c6, c7, _⟩ := h
  go_enter Tryd.func29, Tryd.ntmps29
  go_wp2_with (go_at_call 33; go_must (refine (number_zero _).mono ?_); rintro e w1 ⟨rfl, hb1⟩)
  have HR : Hid (Reads w1 S A B n D 0 kind 1) := HH.out.below hb1
  clear hkind c0 c1 c2 c3 c4 c5 c6 c7 HH
  have HK : Hid (∀ w', Below w1.heap.size w1 w' → (fun w' => w'.cell? ⟨S, 1, none⟩ = some (.map (some B)) ∧ w'.cell? ⟨A, 3, none⟩ = some (.string ⟨#[]⟩) ∧ w'.cell? ⟨A, 4, none⟩ = some (.float .f64 0) ∧ w'.cell? ⟨A, 5, none⟩ = some (.int .i64 0) ∧ w'.cell? ⟨A, 6, none⟩ = some (.int .i32 0) ∧ w'.cell? ⟨A, 7, none⟩ = some (.int .u8 0) ∧ w'.cell? ⟨A, 8, none⟩ = some (.bool false) ∧ w'.cell? ⟨A, 9, none⟩ = some (.bool false) ∧ w'.cell? ⟨A, 10, none⟩ = some (.bool false) ∧ (Instr.lookup 35 (.map (some B)) (.string ⟨#[]⟩) false).run Tryd.prog w' = .ok (.int .i64 0) w') w') := by
    intro w' hb
    have R := HR.out.below hb
    exact ⟨R.texts, R.c0, R.c1, R.c2, R.c3, R.c4, R.c5, R.c6, R.c7, look_empty R.map HT.out⟩
  go_region_held3 (fun w' => w'.cell? ⟨S, 1, none⟩ = some (.map (some B)) ∧ w'.cell? ⟨A, 3, none⟩ = some (.string ⟨#[]⟩) ∧ w'.cell? ⟨A, 4, none⟩ = some (.float .f64 0) ∧ w'.cell? ⟨A, 5, none⟩ = some (.int .i64 0) ∧ w'.cell? ⟨A, 6, none⟩ = some (.int .i32 0) ∧ w'.cell? ⟨A, 7, none⟩ = some (.int .u8 0) ∧ w'.cell? ⟨A, 8, none⟩ = some (.bool false) ∧ w'.cell? ⟨A, 9, none⟩ = some (.bool false) ∧ w'.cell? ⟨A, 10, none⟩ = some (.bool false) ∧ (Instr.lookup 35 (.map (some B)) (.string ⟨#[]⟩) false).run Tryd.prog w' = .ok (.int .i64 0) w') (first | exact HK.out _ hB3 | exact HK.out _ ((Below.refl _ _).drew)) ((go_at_call 32; refine (text_zero _).mono ?_; rintro e w3 ⟨rfl, hb3⟩; have hB3 : Below w1.heap.size w1 w3 := ((Below.refl _ _).drew).trans hb3))
  have R3 := HR.out.below hB3
  have hop := R3.op
  have hcmp := R3.compared
  clear R3 HR HK HT
  rename_i hHeld
  clear hHeld
  go_wp2
  go_ret
  exact ⟨_, rfl, nan_cut _ _ _, (hb1.trans (hB3.mono hb1.size)).drew⟩

set_option maxRecDepth 100000 in
set_option maxHeartbeats 2000000 in
theorem estimate_nan2 (S A B n : Nat) (D : DataW Unit) (kind : Int) (w : World) (h : Reads w S A B n D 0 kind 2) (hk2 : kind ≠ 2) (hk3 : kind ≠ 3) (ht : Holds D 0) :
    Calls Tryd.prog 29 #[.pointer (some ⟨S, 0, none⟩), .pointer (some ⟨A, 0, none⟩)] w (AnsNaN w) := by
  have e2 : (kind == 2) = false := beq_eq_false_iff_ne.2 hk2
  have e3 : (kind == 3) = false := beq_eq_false_iff_ne.2 hk3
  have HH : Hid (Reads w S A B n D 0 kind 2) := h
  have HT : Hid (Holds D 0) := ht
  have hd := fun (w : World) => run_quo_nan w
  have hz := fl_zero
  clear ht hk2 hk3
  obtain ⟨_, _, _, _, hkind, _, c0, c1, c2, c3, c4, c5, c6, c7, _⟩ := h
  go_enter Tryd.func29, Tryd.ntmps29
  go_wp2_with (go_at_call 33; go_must (refine (number_zero _).mono ?_); rintro e w1 ⟨rfl, hb1⟩)
  have HR : Hid (Reads w1 S A B n D 0 kind 2) := HH.out.below hb1
  clear hkind c0 c1 c2 c3 c4 c5 c6 c7 HH
  have HK : Hid (∀ w', Below w1.heap.size w1 w' → (fun w' => w'.cell? ⟨S, 1, none⟩ = some (.map (some B)) ∧ w'.cell? ⟨A, 3, none⟩ = some (.string ⟨#[]⟩) ∧ w'.cell? ⟨A, 4, none⟩ = some (.float .f64 0) ∧ w'.cell? ⟨A, 5, none⟩ = some (.int .i64 0) ∧ w'.cell? ⟨A, 6, none⟩ = some (.int .i32 0) ∧ w'.cell? ⟨A, 7, none⟩ = some (.int .u8 0) ∧ w'.cell? ⟨A, 8, none⟩ = some (.bool false) ∧ w'.cell? ⟨A, 9, none⟩ = some (.bool false) ∧ w'.cell? ⟨A, 10, none⟩ = some (.bool false) ∧ (Instr.lookup 35 (.map (some B)) (.string ⟨#[]⟩) false).run Tryd.prog w' = .ok (.int .i64 0) w') w') := by
    intro w' hb
    have R := HR.out.below hb
    exact ⟨R.texts, R.c0, R.c1, R.c2, R.c3, R.c4, R.c5, R.c6, R.c7, look_empty R.map HT.out⟩
  go_region_held3 (fun w' => w'.cell? ⟨S, 1, none⟩ = some (.map (some B)) ∧ w'.cell? ⟨A, 3, none⟩ = some (.string ⟨#[]⟩) ∧ w'.cell? ⟨A, 4, none⟩ = some (.float .f64 0) ∧ w'.cell? ⟨A, 5, none⟩ = some (.int .i64 0) ∧ w'.cell? ⟨A, 6, none⟩ = some (.int .i32 0) ∧ w'.cell? ⟨A, 7, none⟩ = some (.int .u8 0) ∧ w'.cell? ⟨A, 8, none⟩ = some (.bool false) ∧ w'.cell? ⟨A, 9, none⟩ = some (.bool false) ∧ w'.cell? ⟨A, 10, none⟩ = some (.bool false) ∧ (Instr.lookup 35 (.map (some B)) (.string ⟨#[]⟩) false).run Tryd.prog w' = .ok (.int .i64 0) w') (first | exact HK.out _ hB3 | exact HK.out _ ((Below.refl _ _).drew)) ((go_at_call 32; refine (text_zero _).mono ?_; rintro e w3 ⟨rfl, hb3⟩; have hB3 : Below w1.heap.size w1 w3 := ((Below.refl _ _).drew).trans hb3))
  have R3 := HR.out.below hB3
  have hop := R3.op
  have hcmp := R3.compared
  clear R3 HR HK HT
  rename_i hHeld
  clear hHeld
  go_wp2
  go_ret
  exact ⟨_, rfl, nan_cut _ _ _, (hb1.trans (hB3.mono hb1.size)).drew⟩

end Go.Proofs.Qxb6603875aDoor
