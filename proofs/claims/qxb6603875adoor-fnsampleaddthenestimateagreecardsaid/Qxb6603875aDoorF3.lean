/-
  Shares of two counts as float64's, 4: the division.
-/
import Derived.Test.Qxb6603875aDoorF2
namespace Go.Proofs.Qxb6603875aDoor
open Ieee

theorem fl_nat (n : Nat) : floatOfInt .f64 (n : Int) = double.nearest false n 0 := by
  unfold floatOfInt FloatKind.nearest FloatKind.encode
  have h : decide ((n : Int) < 0) = false := decide_eq_false (by omega)
  rw [h, Int.natAbs_natCast]
  rfl

theorem fl_zero : floatOfInt .f64 0 = 0 := by
  rw [show (0 : Int) = ((0 : Nat) : Int) from rfl, fl_nat]
  decide

theorem fl_pos (n : Nat) (h0 : n ≠ 0) (h : n < 9223372036854775808) : floatOfInt .f64 (n : Int) = (n.log2 + 1022) * 4503599627370496 + K n ∧ n.log2 ≤ 62 := by
  have hl : n.log2 < 63 := (Nat.log2_lt h0).2 (by exact h)
  refine ⟨?_, by omega⟩
  rw [fl_nat, nearest_eq n 0 h0 (by omega) (by omega)]
  have : (0 + (n.log2 : Int) + 1022).toNat = n.log2 + 1022 := by omega
  rw [this]

theorem log2_mono {m n : Nat} (h0 : m ≠ 0) (h : m ≤ n) : m.log2 ≤ n.log2 := by
  have h1 := Nat.log2_self_le h0
  exact (Nat.le_log2 (by omega)).2 (Nat.le_trans h1 h)

theorem fl_mono (t c : Nat) (h0 : t ≠ 0) (h : t ≤ c) (hc : c < 9223372036854775808) : floatOfInt .f64 (t : Int) ≤ floatOfInt .f64 (c : Int) := by
  rw [(fl_pos t h0 (by omega)).1, (fl_pos c (by omega) hc).1]
  have b1 := K_bounds t h0
  have b2 := K_bounds c (by omega)
  have hm := log2_mono h0 h
  by_cases e : t.log2 = c.log2
  · have := K_mono t c e h
    omega
  · omega

/-- the quotient's digits -/
def qm (m n : Nat) : Nat := 2 * ((m <<< 54) / n) + ((m <<< 54) % n != 0).toNat

theorem log2_52 (m : Nat) (h1 : 4503599627370496 ≤ m) (h2 : m < 9007199254740992) : m.log2 = 52 :=
  (Nat.log2_eq_iff (by omega)).2 ⟨by rw [pow52]; exact h1, by rw [pow53]; exact h2⟩

theorem div_eq (x y : Nat) (hx1 : 4503599627370496 ≤ x) (hx2 : x < 9218868437227405312) (hy1 : 4503599627370496 ≤ y) (hy2 : y < 9218868437227405312) :
    double.div x y = some (double.nearest false (qm (4503599627370496 + x % 4503599627370496) (4503599627370496 + y % 4503599627370496)) (((x / 4503599627370496 - 1 : Nat) : Int) - ((y / 4503599627370496 - 1 : Nat) : Int) - 55)) := by
  have l1 := log2_52 (4503599627370496 + x % 4503599627370496) (Nat.le_add_right _ _) (by have := Nat.mod_lt x (show 0 < 4503599627370496 by decide); omega)
  have l2 := log2_52 (4503599627370496 + y % 4503599627370496) (Nat.le_add_right _ _) (by have := Nat.mod_lt y (show 0 < 4503599627370496 by decide); omega)
  unfold Format.div
  rw [read_norm x hx1 hx2, read_norm y hy1 hy2]
  have hn : 4503599627370496 + y % 4503599627370496 ≠ 0 := by omega
  generalize 4503599627370496 + x % 4503599627370496 = m at *
  generalize 4503599627370496 + y % 4503599627370496 = n at *
  generalize (x / 4503599627370496 - 1 : Nat) = i
  generalize (y / 4503599627370496 - 1 : Nat) = j
  unfold Datum.quotient
  simp only [hn, if_false, l1, l2, show double.fractionBits = 52 from rfl, Nat.reduceAdd, Nat.reduceSub, Option.map_some]
  show some (double.nearest _ _ _) = _
  have hp : (-1074 + (i : Int) - (-1074 + (j : Int)) - ((54 : Nat) : Int) - 1) = (i : Int) - (j : Int) - 55 := by omega
  rw [hp]
  rfl

theorem bool_le (b : Bool) : b.toNat ≤ 1 := Bool.toNat_le b

theorem qm_bounds (m n : Nat) (m1 : 4503599627370496 ≤ m) (m2 : m < 9007199254740992) (n1 : 4503599627370496 ≤ n) (n2 : n < 9007199254740992) :
    18014398509481984 ≤ qm m n ∧ qm m n < 72057594037927936 ∧ (m < n → qm m n < 36028797018963968) ∧ (m = n → qm m n = 36028797018963968) := by
  unfold qm
  rw [Nat.shiftLeft_eq, show (2 : Nat) ^ 54 = 18014398509481984 by decide]
  have hb := bool_le (m * 18014398509481984 % n != 0)
  have h0 : 0 < n := by omega
  have a1 : 9007199254740992 ≤ m * 18014398509481984 / n := (Nat.le_div_iff_mul_le h0).2 (by omega)
  have a2 : m * 18014398509481984 / n < 36028797018963968 := (Nat.div_lt_iff_lt_mul h0).2 (by omega)
  refine ⟨by omega, by omega, fun h => ?_, fun h => ?_⟩
  · have a3 : m * 18014398509481984 / n < 18014398509481984 := (Nat.div_lt_iff_lt_mul h0).2 (by omega)
    omega
  · subst h
    have e1 : m * 18014398509481984 / m = 18014398509481984 := Nat.mul_div_cancel_left _ h0
    have e2 : m * 18014398509481984 % m = 0 := Nat.mul_mod_right _ _
    rw [e1, e2]
    rfl

theorem K_one : K 36028797018963968 = 4503599627370496 := by
  unfold K
  decide +kernel

theorem pow54 : (2 : Nat) ^ 54 = 18014398509481984 := by decide
theorem pow55 : (2 : Nat) ^ 55 = 36028797018963968 := by decide
theorem pow56 : (2 : Nat) ^ 56 = 72057594037927936 := by decide

/-- a quotient of two counts' floats -/
theorem div_words (x y : Nat) (hx1 : 1023 * 4503599627370496 ≤ x) (hx2 : x ≤ 1086 * 4503599627370496) (hy1 : 1023 * 4503599627370496 ≤ y) (hy2 : y ≤ 1086 * 4503599627370496) (h : x ≤ y) :
    ∃ r, double.div x y = some r ∧ 0 < r ∧ r ≤ 4607182418800017408 ∧ (x = y → r = 4607182418800017408) := by
  refine ⟨_, div_eq x y (by omega) (by omega) (by omega) (by omega), ?_⟩
  have dx := Nat.div_add_mod x 4503599627370496
  have dy := Nat.div_add_mod y 4503599627370496
  have mx := Nat.mod_lt x (show 0 < 4503599627370496 by decide)
  have my := Nat.mod_lt y (show 0 < 4503599627370496 by decide)
  obtain ⟨i, hi⟩ : ∃ i, x / 4503599627370496 = i := ⟨_, rfl⟩
  obtain ⟨j, hj⟩ : ∃ j, y / 4503599627370496 = j := ⟨_, rfl⟩
  rw [hi] at dx ⊢
  rw [hj] at dy ⊢
  obtain ⟨a, ha⟩ : ∃ a, x % 4503599627370496 = a := ⟨_, rfl⟩
  obtain ⟨b, hb⟩ : ∃ b, y % 4503599627370496 = b := ⟨_, rfl⟩
  rw [ha] at dx mx ⊢
  rw [hb] at dy my ⊢
  obtain ⟨q1, q2, q3, q4⟩ := qm_bounds (4503599627370496 + a) (4503599627370496 + b) (by omega) (by omega) (by omega) (by omega)
  have hij : i ≤ j := by omega
  have hi1 : 1023 ≤ i := by omega
  have hj1 : j ≤ 1086 := by omega
  generalize qm (4503599627370496 + a) (4503599627370496 + b) = q at *
  have kb := K_bounds q (by omega)
  by_cases hq : q < 36028797018963968
  · have hl : q.log2 = 54 := (Nat.log2_eq_iff (by omega)).2 ⟨by rw [pow54]; exact q1, by rw [pow55]; exact hq⟩
    rw [nearest_eq q _ (by omega) (by omega) (by omega), hl]
    have ht : (((i - 1 : Nat) : Int) - ((j - 1 : Nat) : Int) - 55 + ((54 : Nat) : Int) + 1022).toNat ≤ 1021 := by omega
    refine ⟨by omega, by omega, fun e => ?_⟩
    exfalso
    have : q = 36028797018963968 := q4 (by omega)
    omega
  · have hl : q.log2 = 55 := (Nat.log2_eq_iff (by omega)).2 ⟨by rw [pow55]; omega, by rw [pow56]; exact q2⟩
    rw [nearest_eq q _ (by omega) (by omega) (by omega), hl]
    by_cases e : i = j
    · have hab : ¬ a < b := fun hlt => hq (q3 (by omega))
      have hab2 : a = b := by omega
      have hq1 : q = 36028797018963968 := q4 (by omega)
      rw [hq1, K_one]
      have ht : (((i - 1 : Nat) : Int) - ((j - 1 : Nat) : Int) - 55 + ((55 : Nat) : Int) + 1022).toNat = 1022 := by omega
      rw [ht]
      exact ⟨by omega, by omega, fun _ => by omega⟩
    · have ht : (((i - 1 : Nat) : Int) - ((j - 1 : Nat) : Int) - 55 + ((55 : Nat) : Int) + 1022).toNat ≤ 1021 := by omega
      exact ⟨by omega, by omega, fun e' => by omega⟩
end Go.Proofs.Qxb6603875aDoor
