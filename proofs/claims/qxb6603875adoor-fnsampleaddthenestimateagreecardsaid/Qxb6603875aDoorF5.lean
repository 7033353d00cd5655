/-
  Floats, 6: quotients of counts in general; times one; one over nought; NaN's.
-/
import Derived.Test.Qxb6603875aDoorF4
namespace Go.Proofs.Qxb6603875aDoor
open Ieee

/-- a quotient of two counts' floats, whichever is the greater -/
theorem div_any (x y : Nat) (hx1 : 1023 * 4503599627370496 ≤ x) (hx2 : x ≤ 1086 * 4503599627370496) (hy1 : 1023 * 4503599627370496 ≤ y) (hy2 : y ≤ 1086 * 4503599627370496) :
    ∃ r, double.div x y = some r ∧ 4503599627370496 ≤ r ∧ r ≤ 1200 * 4503599627370496 := by
  refine ⟨_, div_eq x y (by omega) (by omega) (by omega) (by omega), ?_⟩
  have mx := Nat.mod_lt x (show 0 < 4503599627370496 by decide)
  have my := Nat.mod_lt y (show 0 < 4503599627370496 by decide)
  have hi1 : 1023 ≤ x / 4503599627370496 := by omega
  have hi2 : x / 4503599627370496 ≤ 1086 := by omega
  have hj1 : 1023 ≤ y / 4503599627370496 := by omega
  have hj2 : y / 4503599627370496 ≤ 1086 := by omega
  obtain ⟨q1, q2, _, _⟩ := qm_bounds (4503599627370496 + x % 4503599627370496) (4503599627370496 + y % 4503599627370496) (by omega) (by omega) (by omega) (by omega)
  generalize x / 4503599627370496 = i at *
  generalize y / 4503599627370496 = j at *
  generalize qm (4503599627370496 + x % 4503599627370496) (4503599627370496 + y % 4503599627370496) = q at *
  have kb := K_bounds q (by omega)
  have hl : q.log2 = 54 ∨ q.log2 = 55 := by
    by_cases hq : q < 36028797018963968
    · exact Or.inl ((Nat.log2_eq_iff (by omega)).2 ⟨by rw [pow54]; exact q1, by rw [pow55]; exact hq⟩)
    · exact Or.inr ((Nat.log2_eq_iff (by omega)).2 ⟨by rw [pow55]; omega, by rw [pow56]; exact q2⟩)
  rw [nearest_eq q _ (by omega) (by omega) (by omega)]
  have ht : 800 ≤ (((i - 1 : Nat) : Int) - ((j - 1 : Nat) : Int) - 55 + ((q.log2 : Nat) : Int) + 1022).toNat ∧ (((i - 1 : Nat) : Int) - ((j - 1 : Nat) : Int) - 55 + ((q.log2 : Nat) : Int) + 1022).toNat ≤ 1100 := by omega
  omega

theorem K_shift (m : Nat) (h1 : 4503599627370496 ≤ m) (h2 : m < 9007199254740992) : (4503599627370496 * m).log2 = 104 ∧ K (4503599627370496 * m) = m := by
  have hl : (4503599627370496 * m).log2 = 104 := by
    refine (Nat.log2_eq_iff (by omega)).2 ⟨?_, ?_⟩
    · rw [show (2 : Nat) ^ 104 = 4503599627370496 * 4503599627370496 by decide]; omega
    · rw [show (2 : Nat) ^ (104 + 1) = 4503599627370496 * 9007199254740992 by decide]; omega
  refine ⟨hl, ?_⟩
  rw [K_great _ (by omega), hl, cut_eq _ _ (by omega), show (2 : Nat) ^ (104 - 52) = 4503599627370496 by decide]
  have e1 : 4503599627370496 * m / 4503599627370496 = m := Nat.mul_div_cancel_left _ (by decide)
  have e2 : 4503599627370496 * m % 4503599627370496 = 0 := Nat.mul_mod_right _ _
  rw [e1, e2]
  rfl

/-- 1.0 * r is r -/
theorem mul_one (r : Nat) (h1 : 4503599627370496 ≤ r) (h2 : r ≤ 1200 * 4503599627370496) : double.mul 4607182418800017408 r = some r := by
  unfold Format.mul
  rw [read_norm r h1 (by omega), read_norm 4607182418800017408 (by decide) (by decide)]
  have dr := Nat.div_add_mod r 4503599627370496
  have mr := Nat.mod_lt r (show 0 < 4503599627370496 by decide)
  have hi1 : 1 ≤ r / 4503599627370496 := by omega
  have hi2 : r / 4503599627370496 ≤ 1200 := by omega
  obtain ⟨k1, k2⟩ := K_shift (4503599627370496 + r % 4503599627370496) (by omega) (by omega)
  have e : (Datum.number false (4503599627370496 + 4607182418800017408 % 4503599627370496) (-1074 + ((4607182418800017408 / 4503599627370496 - 1 : Nat) : Int))).product (.number false (4503599627370496 + r % 4503599627370496) (-1074 + ((r / 4503599627370496 - 1 : Nat) : Int)))
      = some (.number false (4503599627370496 * (4503599627370496 + r % 4503599627370496)) (-52 + (-1074 + ((r / 4503599627370496 - 1 : Nat) : Int)))) := by
    unfold Datum.product
    rfl
  rw [e, Option.map_some]
  show some (double.nearest _ _ _) = _
  generalize r % 4503599627370496 = a at *
  generalize r / 4503599627370496 = i at *
  rw [nearest_eq _ _ (by omega) (by omega) (by omega), k1, k2]
  have ht : (-52 + (-1074 + ((i - 1 : Nat) : Int)) + ((104 : Nat) : Int) + 1022).toNat = i - 1 := by omega
  rw [ht]
  congr 1
  omega

theorem mul_one_zero : double.mul 4607182418800017408 0 = some 0 := by decide +kernel
theorem one_over_zero : double.div 4607182418800017408 0 = some 9218868437227405312 := by decide +kernel
theorem inf_self : FloatKind.f64.format.order 9218868437227405312 9218868437227405312 = some .eq := by decide +kernel
theorem zero_over_zero : double.div 0 0 = none := by decide +kernel

/-- a NaN's word -/
def IsNaN (b : Nat) : Prop := ∃ s u : Nat, s < 2 ∧ u < 4503599627370495 ∧ b = s * 9223372036854775808 + 9218868437227405312 + 1 + u

theorem nan_read (b : Nat) (h : IsNaN b) : ∃ s f, double.read b = .nan s f := by
  obtain ⟨s, u, hs, hu, rfl⟩ := h
  unfold Format.read
  have e2 : (s * 9223372036854775808 + 9218868437227405312 + 1 + u) % 9223372036854775808 = 9218868437227405312 + 1 + u := by omega
  simp only [sign_eq, binade_eq, infRung_eq, least_eq, e2]
  rw [if_neg (by omega), if_neg (by omega), if_neg (by omega)]
  exact ⟨_, _, rfl⟩

theorem nan_order (b x : Nat) (h : IsNaN b) : FloatKind.f64.format.order b x = none := by
  obtain ⟨s, f, e⟩ := nan_read b h
  show (double.read b).order _ = none
  rw [e]
  cases double.read x <;> rfl

theorem nan_mul (b x : Nat) (h : IsNaN b) : double.mul x b = none := by
  obtain ⟨s, f, e⟩ := nan_read b h
  unfold Format.mul
  rw [e]
  cases double.read x <;> rfl

theorem nan_cut (x y t : Nat) : IsNaN ((Question.nanBits .f64 x y).cut t) := by
  refine ⟨t % 2, (t / 2) % 4503599627370495, Nat.mod_lt _ (by decide), Nat.mod_lt _ (by decide), ?_⟩
  rfl
end Go.Proofs.Qxb6603875aDoor
