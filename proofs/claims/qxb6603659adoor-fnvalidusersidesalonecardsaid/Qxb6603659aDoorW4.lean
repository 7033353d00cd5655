/-
  The law FnValidUserSidesAlone.
-/
import Derived.Test.Qxb6603659aDoorW3
namespace Go.Proofs.Qxb6603659aDoor
open Go.RowKit
set_option linter.unusedVariables false

theorem ba_ext {a b : ByteArray} (h : a.data.toList = b.data.toList) : a = b := by
  cases a; cases b; simp only [ByteArray.mk.injEq]; exact Array.toList_inj.1 h

/-- x + "@" -/
theorem add_at (x : ByteArray) (hx : x.size ≤ 1048576) : ∃ t : ByteArray, (∀ wx, (Op.stringOp .add x ⟨#[64]⟩).run Tryd.prog wx = .ok (.string t) wx) ∧
    ∀ y : ByteArray, y.size ≤ 1048576 → ∃ u : ByteArray, (∀ wx, (Op.stringOp .add t y).run Tryd.prog wx = .ok (.string u) wx) ∧ u.data.toList = x.data.toList ++ 64 :: y.data.toList ∧ u.size ≤ 4194304 := by
  refine ⟨x ++ ⟨#[64]⟩, fun wx => run_string_add_sum wx _ _ (by show x.size + 1 ≤ _; omega), fun y hy => ⟨x ++ ⟨#[64]⟩ ++ y, fun wx => run_string_add_sum wx _ _ ?_, ?_, ?_⟩⟩
  · rw [ByteArray.size_append]; show x.size + 1 + y.size ≤ _; omega
  · simp [ByteArray.data_append]
  · rw [ByteArray.size_append, ByteArray.size_append]; show x.size + 1 + y.size ≤ _; omega

set_option maxRecDepth 1000000 in
set_option maxHeartbeats 1000000 in
theorem sides_walk (a b : ByteArray) (w : World) (ha : a.size ≤ 9223372036854775807) (hb : b.size ≤ 9223372036854775807) (hE : Env w) :
    Calls Tryd.prog 4 #[.string a, .string b] w (AnsL w) := by
  by_cases hla : a.size ≤ 65536
  · by_cases hlb : b.size ≤ 65536
    · obtain ⟨ta, ra, fa⟩ := add_at a (by omega)
      obtain ⟨tb, rb, fb⟩ := add_at b (by omega)
      obtain ⟨ab, r1, d1, z1⟩ := fa b (by omega)
      obtain ⟨aa, r2, d2, z2⟩ := fa a (by omega)
      obtain ⟨bb, r3, d3, z3⟩ := fb b (by omega)
      obtain ⟨ba, r4, d4, z4⟩ := fb a (by omega)
      have v1 : VU ab.data.toList = (VP a.data.toList && VP b.data.toList) := by rw [d1]; exact VU_sides _ _
      have v2 : VU aa.data.toList = (VP a.data.toList && VP a.data.toList) := by rw [d2]; exact VU_sides _ _
      have v3 : VU bb.data.toList = (VP b.data.toList && VP b.data.toList) := by rw [d3]; exact VU_sides _ _
      have v4 : VU ba.data.toList = (VP b.data.toList && VP a.data.toList) := by rw [d4]; exact VU_sides _ _
      have hWa : Word a.data.toList → VP a.data.toList = true := fun h => VP_word _ h.1 h.2
      have hWb : Word b.data.toList → VP b.data.toList = true := fun h => VP_word _ h.1 h.2
      clear fa fb d1 d2 d3 d4
      have C1 := fun (wx : World) (hx : Env wx) => zzuser_any ab wx z1 hx
      have C2 := fun (wx : World) (hx : Env wx) => zzuser_any aa wx z2 hx
      have C3 := fun (wx : World) (hx : Env wx) => zzuser_any bb wx z3 hx
      have C4 := fun (wx : World) (hx : Env wx) => zzuser_any ba wx z4 hx
      simp only [v1, v2, v3, v4] at C1 C2 C3 C4
      generalize VP a.data.toList = pa at *
      generalize VP b.data.toList = pb at *
      have HC1 : Hid _ := C1
      have HC2 : Hid _ := C2
      have HC3 : Hid _ := C3
      have HC4 : Hid _ := C4
      have HA : Hid (Word a.data.toList → pa = true) := hWa
      have HB : Hid (Word b.data.toList → pb = true) := hWb
      clear C1 C2 C3 C4 v1 v2 v3 v4 hWa hWb
      go_enter Tryd.func4, Tryd.ntmps4
      go_wp2_with (go_at_call 8; go_must (refine (bytes2_any a b _ ha hb).mono ?_); rintro e w' ⟨v, rfl, hw', _⟩; obtain rfl := hw'.symm)
      · go_ret; exact ⟨rfl, Below.refl _ _⟩
      refine Calls.mono (HC1.out _ hE) ?_
      rintro e w1 ⟨rfl, b1⟩
      have E1 := hE.below b1
      go_wp2_with fail
      refine Calls.mono (HC2.out _ E1) ?_
      rintro e w2 ⟨rfl, b2⟩
      have E2 := E1.below b2
      have g2 := b1.trans (b2.mono b1.size)
      cases pa with
      | false =>
        simp only [Bool.false_and, Bool.and_false]
        go_wp2_with fail
        refine Calls.mono (HC4.out _ E2) ?_
        simp only [Bool.and_false]
        rintro e w4 ⟨rfl, b4⟩
        have g4 := g2.trans (b4.mono g2.size)
        go_wp2_with fail
        refine Calls.mono (word_any a _ ha) ?_
        rintro e w5 ⟨va, rfl, hw5, hva⟩
        obtain rfl := hw5.symm
        have hvf : va = false := by
          cases va with
          | false => rfl
          | true => exact absurd (HA.out (hva rfl)) (by decide)
        subst hvf
        clear hva
        go_wp2_with fail
        go_ret
        exact ⟨rfl, g4⟩
      | true =>
        go_wp2_with fail
        refine Calls.mono (HC3.out _ E2) ?_
        simp only [Bool.and_self]
        rintro e w3 ⟨rfl, b3⟩
        have E3 := E2.below b3
        have g3 := g2.trans (b3.mono g2.size)
        cases pb with
        | false =>
          go_wp2_with fail
          refine Calls.mono (HC4.out _ E3) ?_
          simp only [Bool.false_and]
          rintro e w4 ⟨rfl, b4⟩
          have g4 := g3.trans (b4.mono g3.size)
          go_wp2_with fail
          refine Calls.mono (word_any a _ ha) ?_
          rintro e w5 ⟨va, rfl, hw5, hva⟩
          obtain rfl := hw5.symm
          cases va with
          | false =>
            go_wp2_with fail
            go_ret
            exact ⟨rfl, g4⟩
          | true =>
            go_wp2_with fail
            refine Calls.mono (word_any b _ hb) ?_
            rintro e w6 ⟨vb, rfl, hw6, hvb⟩
            obtain rfl := hw6.symm
            have hvf : vb = false := by
              cases vb with
              | false => rfl
              | true => exact absurd (HB.out (hvb rfl)) (by decide)
            subst hvf
            clear hvb
            go_wp2_with fail
            go_ret
            exact ⟨rfl, g4⟩
        | true =>
          go_wp2_with fail
          refine Calls.mono (HC4.out _ E3) ?_
          simp only [Bool.true_and]
          rintro e w4 ⟨rfl, b4⟩
          have g4 := g3.trans (b4.mono g3.size)
          go_wp2_with fail
          refine Calls.mono (word_any a _ ha) ?_
          rintro e w5 ⟨va, rfl, hw5, hva⟩
          obtain rfl := hw5.symm
          clear hva
          cases va with
          | false =>
            go_wp2_with fail
            go_ret
            exact ⟨rfl, g4⟩
          | true =>
            go_wp2_with fail
            refine Calls.mono (word_any b _ hb) ?_
            rintro e w6 ⟨vb, rfl, hw6, hvb⟩
            obtain rfl := hw6.symm
            clear hvb
            cases vb
            all_goals
              go_wp2_with fail
              go_ret
              exact ⟨rfl, g4⟩
    · go_enter Tryd.func4, Tryd.ntmps4
      go_wp2_with (go_at_call 8; go_must (refine (bytes2_any a b _ ha hb).mono ?_); rintro e w' ⟨v, rfl, hw', _⟩; obtain rfl := hw'.symm)
      all_goals
        go_ret
        exact ⟨rfl, Below.refl _ _⟩
  · go_enter Tryd.func4, Tryd.ntmps4
    go_wp2_with (go_at_call 8; go_must (refine (bytes2_any a b _ ha hb).mono ?_); rintro e w' ⟨v, rfl, hw', _⟩; obtain rfl := hw'.symm)
    all_goals
      go_ret
      exact ⟨rfl, Below.refl _ _⟩
end Go.Proofs.Qxb6603659aDoor
