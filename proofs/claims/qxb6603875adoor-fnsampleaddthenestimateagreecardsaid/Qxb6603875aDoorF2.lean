/-
  Shares of two counts as float64's, 3: how words read, and how they are ordered.
-/
import Derived.Test.Qxb6603875aDoorF1
namespace Go.Proofs.Qxb6603875aDoor
open Ieee

theorem read_norm (x : Nat) (h1 : 4503599627370496 ≤ x) (h2 : x < 9218868437227405312) : double.read x = .number false (4503599627370496 + x % 4503599627370496) (-1074 + ((x / 4503599627370496 - 1 : Nat) : Int)) := by
  have e1 : x / 9223372036854775808 = 0 := Nat.div_eq_of_lt (by omega)
  have e2 : x % 9223372036854775808 = x := Nat.mod_eq_of_lt (by omega)
  unfold Format.read
  simp only [sign_eq, binade_eq, infRung_eq, least_eq, e1, e2]
  rw [if_neg (by omega), if_pos h2]
  rfl

theorem read_sub (x : Nat) (h : x < 4503599627370496) : double.read x = .number false x (-1074) := by
  have e1 : x / 9223372036854775808 = 0 := Nat.div_eq_of_lt (by omega)
  have e2 : x % 9223372036854775808 = x := Nat.mod_eq_of_lt (by omega)
  unfold Format.read
  simp only [sign_eq, binade_eq, infRung_eq, least_eq, e1, e2]
  rw [if_pos h]
  rfl

theorem read_any (x : Nat) (h : x < 9218868437227405312) : ∃ m a : Nat, double.read x = .number false m (-1074 + (a : Int)) ∧ x = a * 4503599627370496 + m ∧ m < 9007199254740992 ∧ (a = 0 ∨ 4503599627370496 ≤ m) := by
  by_cases h1 : x < 4503599627370496
  · exact ⟨x, 0, by rw [read_sub x h1]; rfl, by omega, by omega, Or.inl rfl⟩
  · refine ⟨4503599627370496 + x % 4503599627370496, x / 4503599627370496 - 1, read_norm x (by omega) h, ?_, ?_, Or.inr (by omega)⟩
    · have := Nat.div_add_mod x 4503599627370496
      have : 1 ≤ x / 4503599627370496 := by omega
      omega
    · have := Nat.mod_lt x (show 0 < 4503599627370496 by decide)
      omega

theorem cmp_lt {a b : Int} (h : a < b) : compare a b = .lt := by
  show compareOfLessAndEq a b = _
  unfold compareOfLessAndEq
  rw [if_pos h]
theorem cmp_eq {a b : Int} (h : a = b) : compare a b = .eq := by
  show compareOfLessAndEq a b = _
  unfold compareOfLessAndEq
  rw [if_neg (by omega), if_pos h]
theorem cmp_gt {a b : Int} (h : b < a) : compare a b = .gt := by
  show compareOfLessAndEq a b = _
  unfold compareOfLessAndEq
  rw [if_neg (by omega), if_neg (by omega)]

theorem signed_eq (m u : Nat) : signed false m u = ((m * 2 ^ u : Nat) : Int) := by
  unfold signed
  rw [if_neg (by decide), Nat.shiftLeft_eq]

theorem val_lt (m n a b : Nat) (h : a < b) (hm : m < 9007199254740992) (hn : 4503599627370496 ≤ n) : m * 2 ^ (a - min a b) < n * 2 ^ (b - min a b) := by
  rw [Nat.min_eq_left (Nat.le_of_lt h), Nat.sub_self, Nat.pow_zero, Nat.mul_one]
  obtain ⟨d, hd⟩ : ∃ d, b - a = d + 1 := ⟨b - a - 1, by omega⟩
  rw [hd, Nat.pow_succ]
  have hp : 0 < 2 ^ d := Nat.pow_pos (by decide)
  have := Nat.mul_le_mul hn hp
  have e : n * (2 ^ d * 2) = n * 2 ^ d * 2 := by rw [Nat.mul_assoc]
  rw [e]
  omega

theorem order_num (m n a b : Nat) : (Datum.number false m (-1074 + (a : Int))).order (.number false n (-1074 + (b : Int))) = some (compare ((m * 2 ^ (a - min a b) : Nat) : Int) ((n * 2 ^ (b - min a b) : Nat) : Int)) := by
  show some (compare (signed false m _) (signed false n _)) = _
  rw [signed_eq, signed_eq]
  have s1 : (-1074 + (a : Int) - min (-1074 + (a : Int)) (-1074 + (b : Int))).toNat = a - min a b := by omega
  have s2 : (-1074 + (b : Int) - min (-1074 + (a : Int)) (-1074 + (b : Int))).toNat = b - min a b := by omega
  rw [s1, s2]

theorem order_lt {x y : Nat} (hx : x < 9218868437227405312) (hy : y < 9218868437227405312) (h : x < y) : double.order x y = some .lt := by
  obtain ⟨m, a, r1, e1, b1, c1⟩ := read_any x hx
  obtain ⟨n, b, r2, e2, b2, c2⟩ := read_any y hy
  unfold Format.order
  rw [r1, r2, order_num]
  refine congrArg some (cmp_lt (Int.ofNat_lt.2 ?_))
  by_cases hab : a = b
  · subst hab
    simp only [Nat.min_self, Nat.sub_self, Nat.pow_zero, Nat.mul_one]
    omega
  · have : a < b := by omega
    exact val_lt m n a b this b1 (by omega)

theorem order_gt {x y : Nat} (hx : x < 9218868437227405312) (hy : y < 9218868437227405312) (h : y < x) : double.order x y = some .gt := by
  obtain ⟨m, a, r1, e1, b1, c1⟩ := read_any x hx
  obtain ⟨n, b, r2, e2, b2, c2⟩ := read_any y hy
  unfold Format.order
  rw [r1, r2, order_num]
  refine congrArg some (cmp_gt (Int.ofNat_lt.2 ?_))
  by_cases hab : a = b
  · subst hab
    simp only [Nat.min_self, Nat.sub_self, Nat.pow_zero, Nat.mul_one]
    omega
  · have : b < a := by omega
    rw [Nat.min_comm]
    exact val_lt n m b a this b2 (by omega)

theorem order_eq {x : Nat} (hx : x < 9218868437227405312) : double.order x x = some .eq := by
  obtain ⟨m, a, r1, e1, b1, c1⟩ := read_any x hx
  unfold Format.order
  rw [r1, order_num]
  exact congrArg some (cmp_eq rfl)
end Go.Proofs.Qxb6603875aDoor
