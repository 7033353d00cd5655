/-
  The plain law of FnValidUserExact: the model's answer, way by way. No Go in sight.
-/
import Derived.Test.Qxb6603659aDoorPlain
namespace Go.Proofs.Qxb6603659aDoor
open Go Go.Lib

/-- what zzRefused answers -/
def refM (c : Nat) : Bool := c == 44 || c == 58 || c == 35 || c == 47 || c == 42 || c == 32 || c == 160 || c == 5760 || c == 8232 || c == 8233 || c == 8239 || c == 8287 || c == 12288 || decide (c < 32) || (decide (127 ≤ c) && decide (c ≤ 159)) || (decide (8192 ≤ c) && decide (c ≤ 8202))

set_option maxRecDepth 100000 in
theorem ref_low : ∀ c : Fin 256, c.val ≠ 64 → refB c.val = refM c.val := by decide +kernel

theorem ref_eq (c : Nat) (h : c ≠ 64) : refB c = refM c := by
  by_cases hc : c < 256
  · exact ref_low ⟨c, hc⟩ h
  · have h1 : isControlU (c : Int) = false := by
      unfold isControlU latin1
      rw [decide_eq_false (by omega)]
      rfl
    have h2 : [64, 44, 58, 35, 47, 42].contains c = false := by
      rw [Bool.eq_false_iff]; intro hh; simp at hh; omega
    unfold refB refM
    rw [h1, h2, isSpaceZ_nat]
    unfold isSpaceR
    rw [Bool.eq_iff_iff]
    simp
    omega

/-- the model's test of a rune -/
def qM (c : Nat) : Bool := c == 64 || !refM c

/-- a text without an '@' has no rune '@' -/
theorem allR_noat (l : List UInt8) (h : (64 : UInt8) ∉ l) : allR qM l = allR (fun c => !refB c) l := by
  refine list_rec (P := fun l => (64 : UInt8) ∉ l → allR qM l = allR (fun c => !refB c) l) ?_ ?_ l h
  · intro _; rfl
  · intro l hl ih h
    rw [allR_step _ l hl, allR_step _ l hl, ih (fun hm => h (List.mem_of_mem_drop hm))]
    have hne : (decodeL l).1 ≠ 64 := by
      rcases decodeL_head l hl with ⟨_, h2, h3⟩ | ⟨h1, _⟩ | ⟨h1, _⟩
      · intro e
        apply h
        match l, hl with
        | x :: t, _ =>
          have : x = 64 := by
            apply UInt8.toNat_inj.1
            have : x.toNat = (decodeL (x :: t)).1 := by simpa using h2.symm
            rw [this, e]; rfl
          simp [this]
      · rw [h1]; decide
      · omega
    have : qM (decodeL l).1 = !refB (decodeL l).1 := by
      unfold qM
      rw [beq_eq_false_iff_ne.2 hne, Bool.false_or, ref_eq _ hne]
    rw [this]

theorem VU_split {l : List UInt8} (h : VU l = true) : ∃ a b, l = a ++ 64 :: b ∧ (64 : UInt8) ∉ a ∧ (64 : UInt8) ∉ b ∧ VP a = true ∧ VP b = true := by
  have hm : (64 : UInt8) ∈ l := by
    apply Classical.byContradiction
    intro hno
    have : index l [64] = -1 := by
      refine index_none fun j hj => ?_
      unfold occAt
      cases hd : l.drop j with
      | nil => rfl
      | cons c t =>
        have hc : c ∈ l := List.mem_of_mem_drop (by rw [hd]; simp)
        have : ((64 : UInt8) == c) = false := by rw [beq_eq_false_iff_ne]; intro e; exact hno (e ▸ hc)
        rw [List.isPrefixOf, this, Bool.false_and]
    unfold VU cut at h
    rw [this] at h
    simp at h
  obtain ⟨a, b, rfl, ha⟩ := split_at l hm
  rw [VU_first a b ha, Bool.and_eq_true] at h
  exact ⟨a, b, rfl, ha, VP_at b h.2, h.1, h.2⟩

/-- ill-formed: no user -/
theorem VU_bad {l : List UInt8} (h : validD l = false) : VU l = false := by
  cases hv : VU l with
  | false => rfl
  | true =>
    obtain ⟨a, b, rfl, _, _, h1, h2⟩ := VU_split hv
    rw [validD_app a b 64 (by decide)] at h
    unfold VP at h1 h2
    simp only [Bool.and_eq_true] at h1 h2
    rw [h1.1.2, h2.1.2] at h
    cases h

/-- not just one '@': no user -/
theorem VU_count {l : List UInt8} (h : l.count 64 ≠ 1) : VU l = false := by
  cases hv : VU l with
  | false => rfl
  | true =>
    obtain ⟨a, b, rfl, h1, h2, _, _⟩ := VU_split hv
    exfalso
    apply h
    rw [List.count_append, List.count_cons, List.count_eq_zero_of_not_mem h1, List.count_eq_zero_of_not_mem h2]
    rfl

theorem count_split {l : List UInt8} (h : l.count 64 = 1) : ∃ a b, l = a ++ 64 :: b ∧ (64 : UInt8) ∉ a ∧ (64 : UInt8) ∉ b := by
  have hm : (64 : UInt8) ∈ l := List.count_pos_iff.1 (by omega)
  obtain ⟨a, b, rfl, ha⟩ := split_at l hm
  refine ⟨a, b, rfl, ha, fun hb => ?_⟩
  rw [List.count_append, List.count_cons, List.count_eq_zero_of_not_mem ha] at h
  have := List.count_pos_iff.2 hb
  simp at h
  omega

/-- just one '@', neither first nor last, well-formed: rune by rune -/
theorem VU_good {a b : List UInt8} (ha : (64 : UInt8) ∉ a) (hb : (64 : UInt8) ∉ b) (hv : validD (a ++ 64 :: b) = true) (ha0 : a ≠ []) (hb0 : b ≠ []) : VU (a ++ 64 :: b) = allR qM (a ++ 64 :: b) := by
  rw [VU_sides, allR_app qM a b 64 (by decide), allR_noat a ha, allR_noat b hb]
  rw [validD_app a b 64 (by decide), Bool.and_eq_true] at hv
  unfold VP
  rw [hv.1, hv.2]
  have h1 : a.isEmpty = false := by cases a with | nil => exact absurd rfl ha0 | cons _ _ => rfl
  have h2 : b.isEmpty = false := by cases b with | nil => exact absurd rfl hb0 | cons _ _ => rfl
  rw [h1, h2]
  have : qM (64 : UInt8).toNat = true := by decide
  rw [this]
  simp

theorem VU_edge {a b : List UInt8} (ha : (64 : UInt8) ∉ a) (h : a = [] ∨ b = []) : VU (a ++ 64 :: b) = false := by
  rw [VU_first a b ha]
  rcases h with rfl | rfl
  · rfl
  · show (VP a && false) = false
    simp
end Go.Proofs.Qxb6603659aDoor
