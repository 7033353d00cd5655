/-
  zzUserModel.
-/
import Derived.Test.Qxb6603659aDoorE9
namespace Go.Proofs.Qxb6603659aDoor
open Go.RowKit
set_option linter.unusedVariables false

/-- loop 1's books: how many '@' lie in the text's first k bytes, and where the last one lies -/
def Seen (s : ByteArray) (k count : Nat) (at_ : Int) : Prop :=
  (s.data.toList.take k).count 64 = count ∧ (count = 0 → at_ = -1) ∧ ∀ a b, s.data.toList.take k = a ++ 64 :: b → (64 : UInt8) ∉ b → at_ = (a.length : Int)

theorem seen_start (s : ByteArray) : Seen s 0 0 (-1) := by
  refine ⟨by simp, fun _ => rfl, fun a b h => ?_⟩
  simp at h

theorem seen_other {s : ByteArray} {k count : Nat} {at_ : Int} (h : k < s.size) (hc : s[k] ≠ 64) (hS : Seen s k count at_) : Seen s (k + 1) count at_ := by
  obtain ⟨h1, h2, h3⟩ := hS
  refine ⟨?_, h2, fun a b hab hb => ?_⟩
  · rw [take_snoc s k h, List.count_append, h1]; simp [hc]
  · rw [take_snoc s k h] at hab
    rcases List.eq_nil_or_concat b with rfl | ⟨b', x, rfl⟩
    · exfalso
      have := congrArg List.getLast? hab
      simp at this
      exact hc this
    · have e : s.data.toList.take k ++ [s[k]] = (a ++ 64 :: b') ++ [x] := by rw [hab]; simp
      have := List.append_inj' e rfl
      exact h3 a b' this.1 (fun hm => hb (by simp [hm]))

theorem seen_at {s : ByteArray} {k count : Nat} {at_ : Int} (h : k < s.size) (hc : s[k] = 64) (hS : Seen s k count at_) : Seen s (k + 1) (count + 1) (k : Int) := by
  obtain ⟨h1, h2, h3⟩ := hS
  refine ⟨?_, fun h => absurd h (by omega), fun a b hab hb => ?_⟩
  · rw [take_snoc s k h, List.count_append, h1]; simp [hc]
  · rw [take_snoc s k h] at hab
    rcases List.eq_nil_or_concat b with rfl | ⟨b', x, rfl⟩
    · have := congrArg List.length hab
      simp at this
      omega
    · exfalso
      have e : s.data.toList.take k ++ [s[k]] = (a ++ 64 :: b') ++ [x] := by rw [hab]; simp
      have := (List.append_inj' e rfl).2
      simp only [List.cons.injEq, and_true] at this
      apply hb
      simp [← this, hc]

/-- at the end of loop 1: what its test says -/
theorem seen_end {s : ByteArray} {count : Nat} {at_ : Int} (hS : Seen s s.size count at_) (hv : Lib.validD s.data.toList = true) :
    ((count ≠ 1 ∨ at_ = 0 ∨ at_ = (s.size : Int) - 1) → VU s.data.toList = false) ∧ (count = 1 → at_ ≠ 0 → at_ ≠ (s.size : Int) - 1 → VU s.data.toList = allR qM s.data.toList) := by
  obtain ⟨h1, h2, h3⟩ := hS
  have hl : s.data.toList.length = s.size := by simp
  rw [List.take_of_length_le (by omega)] at h1 h3
  by_cases hc : count = 1
  · obtain ⟨a, b, hab, ha, hb⟩ := count_split (h1.trans hc)
    have hat := h3 a b hab hb
    have hlen := congrArg List.length hab
    simp only [List.length_append, List.length_cons] at hlen
    rw [hl] at hlen
    constructor
    · rintro (h | h | h)
      · exact absurd hc h
      · rw [hab]; exact VU_edge ha (Or.inl (List.eq_nil_of_length_eq_zero (by omega)))
      · rw [hab]; exact VU_edge ha (Or.inr (List.eq_nil_of_length_eq_zero (by omega)))
    · intro _ g1 g2
      rw [hab] at hv ⊢
      refine VU_good ha hb hv ?_ ?_
      · rintro rfl; apply g1; rw [hat]; rfl
      · rintro rfl; apply g2; rw [hat]; simp at hlen; omega
  · exact ⟨fun _ => VU_count (by omega), fun h => absurd h hc⟩

set_option maxRecDepth 1000000 in
set_option maxHeartbeats 2000000 in
theorem model_any (s : ByteArray) (w : World) (hs : s.size ≤ 1048576) (hD : DecAt s) :
    Calls Tryd.prog 7 #[.string s] w fun e w' => e = .returned (.bool (VU s.data.toList)) ∧ w' = w := by
  have HV := validz_any s w hs hD
  have HD : Hid (DecAt s) := hD
  clear hD
  obtain ⟨v, hv⟩ : ∃ v, VU s.data.toList = v := ⟨_, rfl⟩
  rw [hv]
  cases hval : Lib.validD s.data.toList with
  | false =>
    rw [hval] at HV
    have hvf : v = false := by rw [← hv]; exact VU_bad hval
    subst hvf
    have HC : Hid _ := HV
    clear HV hv hval
    go_enter Tryd.func7, Tryd.ntmps7
    go_wp2_with (go_at_call 11; go_must (refine Calls.mono HC.out ?_); rintro e w' ⟨rfl, hw'⟩; obtain rfl := hw'.symm)
    go_ret
    exact ⟨rfl, rfl⟩
  | true =>
    rw [hval] at HV
    have HC : Hid _ := HV
    have HVU : Hid (VU s.data.toList = v) := hv
    have HVal : Hid (Lib.validD s.data.toList = true) := hval
    clear HV hv hval
    go_enter Tryd.func7, Tryd.ntmps7
    go_wp2_with (go_at_call 11; go_must (refine Calls.mono HC.out ?_); rintro e w' ⟨rfl, hw'⟩; obtain rfl := hw'.symm)
    go_loop [3, 4, 5] (fun at_ count i => ∃ (k c : Nat) (p : Int), k ≤ s.size ∧ c ≤ k ∧ -1 ≤ p ∧ p ≤ k ∧ at_ = .int .i64 p ∧ count = .int .i64 c ∧ i = .int .i64 k ∧ Hid (Seen s k c p)) (fun _ _ i => s.size - (intOf i).toNat)
    case atStart => exact ⟨0, 0, -1, Nat.zero_le _, Nat.le_refl _, by omega, by omega, rfl, rfl, rfl, seen_start s⟩
    case round =>
      obtain ⟨k, c, p, hk, hck, hp1, hp2, rfl, rfl, rfl, HS⟩ := hrel
      by_cases hlt : k < s.size
      · by_cases hc : s[k] = 64
        · have HS' : Hid (Seen s (k + 1) (c + 1) (k : Int)) := seen_at hlt hc HS.out
          have hc' : (((s[k]'hlt).toNat : Int) == 64) = true := by rw [hc]; rfl
          clear HS hc
          go_wp2
          exact ⟨⟨k + 1, c + 1, k, by omega, by omega, by omega, by omega, rfl, by go_num, by go_num, HS'⟩, by simp [intOf]; omega⟩
        · have HS' : Hid (Seen s (k + 1) c p) := seen_other hlt hc HS.out
          have hc' : (((s[k]'hlt).toNat : Int) == 64) = false := beq_eq_false_iff_ne.2 (fun e => hc (by apply UInt8.toNat_inj.1; show _ = 64; omega))
          clear HS hc
          go_wp2
          exact ⟨⟨k + 1, c, p, by omega, by omega, by omega, by omega, rfl, rfl, by go_num, HS'⟩, by simp [intOf]; omega⟩
      · have hkk : k = s.size := by omega
        subst hkk
        obtain ⟨f1, f2⟩ := seen_end HS.out HVal.out
        rw [HVU.out] at f1 f2
        clear HS hlt
        by_cases ht : c ≠ 1 ∨ p = 0 ∨ p = (s.size : Int) - 1
        · have hvf := f1 ht
          subst hvf
          clear f1 f2
          by_cases t1 : c = 1
          · have t1' : ((c : Int) != 1) = false := by simp [t1]
            by_cases t2 : p = 0
            · have t2' : (p == 0) = true := by simp [t2]
              clear ht t1 t2
              go_wp2
              go_ret
              exact ⟨rfl, rfl⟩
            · have t2' : (p == 0) = false := beq_eq_false_iff_ne.2 t2
              have t3' : (p == (s.size : Int) - 1) = true := by rw [beq_iff_eq]; omega
              clear ht t1 t2
              go_wp2
              go_ret
              exact ⟨rfl, rfl⟩
          · have t1' : ((c : Int) != 1) = true := by rw [bne_iff_ne]; omega
            clear ht t1
            go_wp2
            go_ret
            exact ⟨rfl, rfl⟩
        · have t1' : ((c : Int) != 1) = false := by simp; omega
          have t2' : (p == 0) = false := beq_eq_false_iff_ne.2 (by omega)
          have t3' : (p == (s.size : Int) - 1) = false := beq_eq_false_iff_ne.2 (by omega)
          have HQ : Hid (allR qM s.data.toList = v) := (f2 (by omega) (by omega) (by omega)).symm
          clear f1 f2 ht HVU
          go_wp2
          go_loop [6, 7, 8, 9] (fun i _ _ _ => ∃ k : Nat, k ≤ s.size ∧ i = .int .i64 k ∧ Hid (Lib.validD (s.data.toList.drop k) = true) ∧ Hid (allR qM (s.data.toList.drop k) = v)) (fun i _ _ _ => s.size - (intOf i).toNat)
          case atStart => exact ⟨0, Nat.zero_le _, rfl, HVal, HQ⟩
          case round =>
            obtain ⟨k, hk, rfl, HVk, HQk⟩ := hrel
            by_cases hlt : k < s.size
            · have hstep := valid_at s k hlt
              have hq := allR_at qM s k hlt
              have hcall := HD.out k w hlt
              have hwi := width_in s k hlt
              have hwp := Lib.width_pos s k
              have hrl := Lib.rune_le s k
              rw [HVk.out] at hstep
              have hd : Utf8.decode s k ≠ (65533, 1) := by intro e; rw [if_pos e] at hstep; cases hstep
              rw [if_neg hd] at hstep
              rw [zret_ok _ hd] at hcall
              rw [HQk.out] at hq
              generalize Utf8.decode s k = D at *
              obtain ⟨c, n⟩ := D
              simp only at hcall hstep hwi hwp hq hrl
              have HC2 : Hid _ := hcall
              have HVn : Hid (Lib.validD (s.data.toList.drop (k + n)) = true) := hstep.symm
              clear hcall hstep hd HVk HQk
              have hsum : (k : Int) + (n : Int) ≤ 1048576 := by omega
              by_cases h64 : c = 64
              · have t64 : ((c : Int) != 64) = false := by simp; omega
                have HQn : Hid (allR qM (s.data.toList.drop (k + n)) = v) := by
                  show _ = _
                  rw [hq, h64]; rfl
                clear hq h64
                go_wp2_with (go_at_call 12; go_must (refine Calls.mono HC2.out ?_); rintro e w' ⟨rfl, hw'⟩; obtain rfl := hw'.symm)
                exact ⟨⟨k + n, hwi, by go_num, HVn, HQn⟩, by simp [intOf]; omega⟩
              · have t64 : ((c : Int) != 64) = true := by rw [bne_iff_ne]; omega
                have hR := refused_any c w hrl
                have hqc : qM c = !refM c := by unfold qM; rw [beq_eq_false_iff_ne.2 h64, Bool.false_or]
                rw [hqc] at hq
                cases hr : refM c with
                | true =>
                  rw [hr] at hR hq
                  have hvf : v = false := by rw [hq]; rfl
                  subst hvf
                  have HR : Hid _ := hR
                  clear hq hR hr hqc h64
                  go_wp2_with (first
                    | (go_at_call 12; go_must (refine Calls.mono HC2.out ?_); rintro e w' ⟨rfl, hw'⟩; obtain rfl := hw'.symm)
                    | (go_at_call 13; go_must (refine Calls.mono HR.out ?_); rintro e w' ⟨rfl, hw'⟩; obtain rfl := hw'.symm))
                  go_ret
                  exact ⟨rfl, rfl⟩
                | false =>
                  rw [hr] at hR hq
                  have HQn : Hid (allR qM (s.data.toList.drop (k + n)) = v) := by
                    show _ = _
                    rw [hq]; rfl
                  have HR : Hid _ := hR
                  clear hq hR hr hqc h64
                  go_wp2_with (first
                    | (go_at_call 12; go_must (refine Calls.mono HC2.out ?_); rintro e w' ⟨rfl, hw'⟩; obtain rfl := hw'.symm)
                    | (go_at_call 13; go_must (refine Calls.mono HR.out ?_); rintro e w' ⟨rfl, hw'⟩; obtain rfl := hw'.symm))
                  exact ⟨⟨k + n, hwi, by go_num, HVn, HQn⟩, by simp [intOf]; omega⟩
            · have hvt : v = true := by
                rw [← HQk.out, List.drop_eq_nil_of_le (by simp; omega)]; rfl
              subst hvt
              clear HVk HQk
              go_wp2
              go_ret
              exact ⟨rfl, rfl⟩
end Go.Proofs.Qxb6603659aDoor
