/-
  Shares of two counts as float64's, 2.
-/
import Derived.Test.Qxb6603875aDoorF0
namespace Go.Proofs.Qxb6603875aDoor
open Ieee

theorem word_false (x : Nat) : double.word false x = x := by unfold Format.word; simp

theorem K_def (n : Nat) : Toward.even.cut false (n <<< (52 - n.log2)) (n.log2 - 52) = K n := by unfold K; rfl

theorem min_le (a k : Nat) (ha : a ≤ 1922) (hk : k ≤ 9007199254740992) : min (a * 4503599627370496 + k) 9218868437227405312 = a * 4503599627370496 + k := by
  apply Nat.min_eq_left
  omega

/-- the word nearest to a number that is no subnormal one and not too great -/
theorem nearest_eq (n : Nat) (p : Int) (h0 : n ≠ 0) (h1 : -1022 ≤ p + n.log2) (h2 : p + n.log2 ≤ 900) :
    double.nearest false n p = (p + n.log2 + 1022).toNat * 4503599627370496 + K n := by
  have hb := K_bounds n h0
  have hl : max (p + (n.log2 : Int) - ((52 : Nat) : Int)) (-1074) = p + n.log2 - 52 := by omega
  have s1 : (p - (p + (n.log2 : Int) - 52)).toNat = 52 - n.log2 := by omega
  have s2 : (p + (n.log2 : Int) - 52 - p).toNat = n.log2 - 52 := by omega
  have s3 : (p + (n.log2 : Int) - 52 - -1074).toNat = (p + n.log2 + 1022).toNat := by omega
  have s4 : (p + (n.log2 : Int) + 1022).toNat ≤ 1922 := by omega
  unfold Format.nearest
  rw [if_neg h0]
  simp only [least_eq, binade_eq, infRung_eq, show double.fractionBits = 52 from rfl]
  rw [hl, s1, s2, s3, K_def, word_false]
  exact min_le _ _ s4 hb.2
end Go.Proofs.Qxb6603875aDoor
