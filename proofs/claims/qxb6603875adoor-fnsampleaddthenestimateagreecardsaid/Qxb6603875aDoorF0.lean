/-
  Shares of two counts as float64's: no Go in sight.
-/
import Derived.Laws.FloatArith
import Derived.Laws.Cover2
namespace Go.Proofs.Qxb6603875aDoor
open Ieee

/-- rounding a whole number at d dropped digits -/
theorem cut_eq (n d : Nat) (h : d ≤ n.log2 + 2) : Toward.even.cut false n d = n / 2 ^ d + (decide (2 ^ d < 2 * (n % 2 ^ d)) || (2 ^ d == 2 * (n % 2 ^ d) && n / 2 ^ d % 2 == 1)).toNat := by
  unfold Toward.cut
  simp only [Nat.min_eq_left h, Nat.one_shiftLeft]

theorem cut_bounds (n d : Nat) (h : d ≤ n.log2 + 2) : n / 2 ^ d ≤ Toward.even.cut false n d ∧ Toward.even.cut false n d ≤ n / 2 ^ d + 1 := by
  rw [cut_eq n d h]
  refine ⟨Nat.le_add_right _ _, Nat.add_le_add_left ?_ _⟩
  generalize (decide (2 ^ d < 2 * (n % 2 ^ d)) || (2 ^ d == 2 * (n % 2 ^ d) && n / 2 ^ d % 2 == 1)) = b
  cases b <;> decide

theorem cut_zero (n : Nat) : Toward.even.cut false n 0 = n := by
  rw [cut_eq n 0 (Nat.zero_le _)]
  simp [Nat.mod_one]

theorem cut_mono (m n d : Nat) (hm : d ≤ m.log2 + 2) (hn : d ≤ n.log2 + 2) (h : m ≤ n) : Toward.even.cut false m d ≤ Toward.even.cut false n d := by
  have hd := Nat.div_le_div_right (c := 2 ^ d) h
  by_cases e : m / 2 ^ d = n / 2 ^ d
  · rw [cut_eq m d hm, cut_eq n d hn, e]
    have hmod : m % 2 ^ d ≤ n % 2 ^ d := by
      have h1 := Nat.div_add_mod m (2 ^ d)
      have h2 := Nat.div_add_mod n (2 ^ d)
      rw [e] at h1
      omega
    apply Nat.add_le_add_left
    generalize 2 ^ d = g at *
    generalize m % g = a at *
    generalize n % g = b at *
    generalize n / g % 2 = c at *
    by_cases h1 : g < 2 * b
    · simp only [h1, decide_true, Bool.true_or]
      exact Bool.toNat_le _
    · by_cases h2 : g = 2 * b
      · by_cases h3 : g = 2 * a
        · have : a = b := by omega
          subst this
          exact Nat.le_refl _
        · have : (decide (g < 2 * a) || (g == 2 * a && c == 1)) = false := by simp; constructor; omega; intro hh; exact absurd hh h3
          rw [this]
          exact Nat.zero_le _
      · have : (decide (g < 2 * a) || (g == 2 * a && c == 1)) = false := by simp; constructor; omega; intro hh; omega
        rw [this]
        exact Nat.zero_le _
  · have h1 := (cut_bounds m d hm).2
    have h2 := (cut_bounds n d hn).1
    omega

/-- the significand that is kept of a number -/
def K (n : Nat) : Nat := Toward.even.cut false (n <<< (52 - n.log2)) (n.log2 - 52)

theorem pow52 : (2 : Nat) ^ 52 = 4503599627370496 := by decide
theorem pow53 : (2 : Nat) ^ 53 = 9007199254740992 := by decide

theorem K_small (n : Nat) (h : n.log2 ≤ 52) : K n = n * 2 ^ (52 - n.log2) := by
  unfold K
  rw [show n.log2 - 52 = 0 by omega, cut_zero, Nat.shiftLeft_eq]

theorem K_great (n : Nat) (h : 52 ≤ n.log2) : K n = Toward.even.cut false n (n.log2 - 52) := by
  unfold K
  rw [show 52 - n.log2 = 0 by omega, Nat.shiftLeft_zero]

theorem K_bounds (n : Nat) (h0 : n ≠ 0) : 4503599627370496 ≤ K n ∧ K n ≤ 9007199254740992 := by
  have l1 := Nat.log2_self_le h0
  have l2 := Nat.lt_log2_self (n := n)
  by_cases h : n.log2 ≤ 52
  · rw [K_small n h]
    have e1 : 2 ^ n.log2 * 2 ^ (52 - n.log2) = 2 ^ 52 := by rw [← Nat.pow_add]; congr 1; omega
    have e2 : 2 ^ (n.log2 + 1) * 2 ^ (52 - n.log2) = 2 ^ 53 := by rw [← Nat.pow_add]; congr 1; omega
    have a1 := Nat.mul_le_mul_right (2 ^ (52 - n.log2)) l1
    have a2 := Nat.mul_le_mul_right (2 ^ (52 - n.log2)) (Nat.le_of_lt l2)
    rw [e1, pow52] at a1
    rw [e2, pow53] at a2
    exact ⟨a1, a2⟩
  · rw [K_great n (by omega)]
    have hb := cut_bounds n (n.log2 - 52) (by omega)
    have e1 : 2 ^ n.log2 = 2 ^ 52 * 2 ^ (n.log2 - 52) := by rw [← Nat.pow_add]; congr 1; omega
    have e2 : 2 ^ (n.log2 + 1) = 2 ^ 53 * 2 ^ (n.log2 - 52) := by rw [← Nat.pow_add]; congr 1; omega
    have hp : 0 < 2 ^ (n.log2 - 52) := Nat.pow_pos (by decide)
    have a1 : 2 ^ 52 ≤ n / 2 ^ (n.log2 - 52) := by rw [Nat.le_div_iff_mul_le hp, ← e1]; exact l1
    have a2 : n / 2 ^ (n.log2 - 52) < 2 ^ 53 := by rw [Nat.div_lt_iff_lt_mul hp, ← e2]; exact l2
    rw [pow52] at a1
    rw [pow53] at a2
    omega

theorem K_mono (m n : Nat) (e : m.log2 = n.log2) (h : m ≤ n) : K m ≤ K n := by
  by_cases hl : n.log2 ≤ 52
  · rw [K_small n hl, K_small m (by omega), e]
    exact Nat.mul_le_mul_right _ h
  · rw [K_great n (by omega), K_great m (by omega), e]
    exact cut_mono m n _ (by omega) (by omega) h

theorem infRung_eq : double.infRung = 9218868437227405312 := by decide
theorem binade_eq : double.binade = 4503599627370496 := by decide
theorem sign_eq : double.signWeight = 9223372036854775808 := by decide
theorem least_eq : double.leastPlace = -1074 := by decide

end Go.Proofs.Qxb6603875aDoor
