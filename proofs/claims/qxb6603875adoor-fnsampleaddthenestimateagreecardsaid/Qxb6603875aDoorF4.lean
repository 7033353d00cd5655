/-
  Shares of two counts as float64's, 5: what the law asks of them.
-/
import Derived.Test.Qxb6603875aDoorF3
namespace Go.Proofs.Qxb6603875aDoor
open Ieee

/-- r: the bits of float64(t) / float64(c) -/
structure Share (t c : Int) (r : Nat) : Prop where
  quo : floatBits .quo .f64 (floatOfInt .f64 t) (floatOfInt .f64 c) = some r
  le : r ≤ 4607182418800017408
  zero : t = 0 → r = 0
  pos : t ≠ 0 → 0 < r
  full : t = c → r = 4607182418800017408

theorem div_zero (y : Nat) (hy1 : 4503599627370496 ≤ y) (hy2 : y < 9218868437227405312) : double.div 0 y = some 0 := by
  unfold Format.div
  rw [read_norm y hy1 hy2, read_sub 0 (by decide)]
  have hn : 4503599627370496 + y % 4503599627370496 ≠ 0 := by omega
  generalize 4503599627370496 + y % 4503599627370496 = n at *
  unfold Datum.quotient
  simp only [hn, if_false, Nat.zero_shiftLeft, Nat.zero_div, Nat.zero_mod, Nat.mul_zero, bne_self_eq_false, Bool.toNat_false, Nat.add_zero, Option.map_some]
  show some (double.nearest _ 0 _) = _
  unfold Format.nearest
  rw [if_pos rfl]
  rfl

theorem fl_range (n : Nat) (h0 : n ≠ 0) (h : n < 9223372036854775808) : 1023 * 4503599627370496 ≤ floatOfInt .f64 (n : Int) ∧ floatOfInt .f64 (n : Int) ≤ 1086 * 4503599627370496 := by
  obtain ⟨e, hl⟩ := fl_pos n h0 h
  have hb := K_bounds n h0
  rw [e]
  omega

theorem share_ex (t c : Int) (h0 : 0 ≤ t) (h1 : t ≤ c) (hc : 0 < c) (hc2 : c ≤ 9223372036854775807) : ∃ r, Share t c r := by
  obtain ⟨c', rfl⟩ := Int.eq_ofNat_of_zero_le (Int.le_of_lt hc)
  obtain ⟨t', rfl⟩ := Int.eq_ofNat_of_zero_le h0
  have rc := fl_range c' (by omega) (by omega)
  by_cases ht : t' = 0
  · subst ht
    refine ⟨0, ?_, by decide, fun _ => rfl, fun h => absurd rfl h, fun h => by omega⟩
    show double.div (floatOfInt .f64 0) _ = _
    rw [fl_zero]
    exact div_zero _ (by omega) (by omega)
  · have rt := fl_range t' ht (by omega)
    obtain ⟨r, e, p, l, f⟩ := div_words _ _ rt.1 rt.2 rc.1 rc.2 (fl_mono t' c' ht (by omega) (by omega))
    exact ⟨r, e, l, fun h => by omega, fun _ => p, fun h => f (by rw [h])⟩

/-- the words that the law compares with -/
theorem half_self : FloatKind.f64.format.order 4602678819172646912 4602678819172646912 = some .eq := order_eq (by decide)

theorem Share.self {t c : Int} {r : Nat} (h : Share t c r) : FloatKind.f64.format.order r r = some .eq := order_eq (by have := h.le; omega)
theorem Share.at_zero {t c : Int} {r : Nat} (h : Share t c r) (ht : t = 0) : FloatKind.f64.format.order r 0 = some .eq := by
  rw [h.zero ht]; exact order_eq (by decide)
theorem Share.at_pos {t c : Int} {r : Nat} (h : Share t c r) (ht : t ≠ 0) : FloatKind.f64.format.order r 0 = some .gt :=
  order_gt (by have := h.le; omega) (by decide) (h.pos ht)
theorem Share.at_full {t c : Int} {r : Nat} (h : Share t c r) (ht : t = c) : FloatKind.f64.format.order r 4607182418800017408 = some .eq := by
  rw [h.full ht]; exact order_eq (by decide)
theorem Share.at_one {t c : Int} {r : Nat} (h : Share t c r) : FloatKind.f64.format.order r 4607182418800017408 = some .lt ∨ FloatKind.f64.format.order r 4607182418800017408 = some .eq := by
  have := h.le
  by_cases e : r = 4607182418800017408
  · right; rw [e]; exact order_eq (by decide)
  · left; exact order_lt (by omega) (by decide) (by omega)
end Go.Proofs.Qxb6603875aDoor
