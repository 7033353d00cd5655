/-
  zzPlainWord, zzBytes.., and the law FnValidUserSidesAlone.
-/
import Derived.Test.Qxb6603659aDoorW2
namespace Go.Proofs.Qxb6603659aDoor
open Go.RowKit
set_option linter.unusedVariables false

/-- the call answers a bool, leaves the world alone, and where it answers true 'Q' stands -/
def AnsB (Q : Prop) (w : World) : Ending → World → Prop := fun e w' => ∃ b : Bool, e = .returned (.bool b) ∧ w' = w ∧ (b = true → Q)

/-- what a law owes: true, and nothing old has turned -/
def AnsL (w : World) : Ending → World → Prop := fun e w' => e = .returned (.bool true) ∧ Below w.heap.size w w'

theorem take_snoc (s : ByteArray) (k : Nat) (h : k < s.size) : s.data.toList.take (k + 1) = s.data.toList.take k ++ [s[k]] := by
  rw [List.take_succ_eq_append_getElem (by simpa using h)]; rfl

set_option maxHeartbeats 1000000 in
theorem bytes2_any (a b : ByteArray) (w : World) (ha : a.size ≤ 9223372036854775807) (hb : b.size ≤ 9223372036854775807) :
    Calls Tryd.prog 8 #[.string a, .string b] w (AnsB True w) := by
  go_enter Tryd.func8, Tryd.ntmps8
  go_wp2
  all_goals first
    | (go_ret; exact ⟨false, rfl, rfl, fun _ => trivial⟩)
    | (go_ret; exact ⟨true, rfl, rfl, fun _ => trivial⟩)

/-- a byte: of a word, by six ranges; or not, by six gaps -/
theorem word_cases (c : UInt8) : (wordB c = true ∧ (((97 : Int) ≤ c.toNat ∧ (c.toNat : Int) ≤ 122) ∨ ((65 : Int) ≤ c.toNat ∧ (c.toNat : Int) ≤ 90) ∨ ((48 : Int) ≤ c.toNat ∧ (c.toNat : Int) ≤ 57) ∨ ((46 : Int) ≤ c.toNat ∧ (c.toNat : Int) ≤ 46) ∨ ((45 : Int) ≤ c.toNat ∧ (c.toNat : Int) ≤ 45) ∨ ((95 : Int) ≤ c.toNat ∧ (c.toNat : Int) ≤ 95))) ∨
    (((0 : Int) ≤ c.toNat ∧ (c.toNat : Int) ≤ 44) ∨ ((47 : Int) ≤ c.toNat ∧ (c.toNat : Int) ≤ 47) ∨ ((58 : Int) ≤ c.toNat ∧ (c.toNat : Int) ≤ 64) ∨ ((91 : Int) ≤ c.toNat ∧ (c.toNat : Int) ≤ 94) ∨ ((96 : Int) ≤ c.toNat ∧ (c.toNat : Int) ≤ 96) ∨ ((123 : Int) ≤ c.toNat ∧ (c.toNat : Int) ≤ 255)) := by
  have hlt := c.toNat_lt
  cases hw : wordB c with
  | true =>
    left
    refine ⟨rfl, ?_⟩
    simp [wordB] at hw
    omega
  | false =>
    right
    simp [wordB] at hw
    omega

def Word (l : List UInt8) : Prop := l ≠ [] ∧ ∀ c ∈ l, wordB c = true

set_option maxRecDepth 100000 in
set_option maxHeartbeats 2000000 in
theorem word_any (s : ByteArray) (w : World) (hs : s.size ≤ 9223372036854775807) : Calls Tryd.prog 9 #[.string s] w (AnsB (Word s.data.toList) w) := by
  by_cases h0 : s.size = 0
  · have h0' : ((s.size : Int) == 0) = true := by simp [h0]
    go_enter Tryd.func9, Tryd.ntmps9
    go_wp2
    go_ret
    exact ⟨false, rfl, rfl, by intro h; cases h⟩
  · have h0' : ((s.size : Int) == 0) = false := beq_eq_false_iff_ne.2 (by omega)
    go_enter Tryd.func9, Tryd.ntmps9
    go_wp2
    go_loop [3, 4, 5] (fun i _ _ => ∃ k : Nat, k ≤ s.size ∧ i = .int .i64 k ∧ Hid (∀ c ∈ s.data.toList.take k, wordB c = true)) (fun i _ _ => s.size - (intOf i).toNat)
    case atStart => exact ⟨0, Nat.zero_le _, rfl, by intro c hc; simp at hc⟩
    case round =>
      obtain ⟨k, hk, rfl, HN⟩ := hrel
      by_cases hlt : k < s.size
      · have hx := word_cases (s[k]'hlt)
        rcases hx with ⟨hw, hx⟩ | hx
        · have HW : Hid (∀ c ∈ s.data.toList.take (k + 1), wordB c = true) := by
            show ∀ c ∈ s.data.toList.take (k + 1), wordB c = true
            rw [take_snoc s k hlt]
            intro c hc
            rcases List.mem_append.1 hc with h | h
            · exact HN.out c h
            · simp at h; subst h; exact hw
          clear HN hw
          rcases hx with ⟨h1, h2⟩ | ⟨h1, h2⟩ | ⟨h1, h2⟩ | ⟨h1, h2⟩ | ⟨h1, h2⟩ | ⟨h1, h2⟩
          all_goals
            go_wp2
            all_goals first
              | (go_ret; exact ⟨false, rfl, rfl, by intro h; cases h⟩)
              | exact ⟨⟨k + 1, by omega, by go_num, HW⟩, by simp [intOf]; omega⟩
        · clear HN
          rcases hx with ⟨h1, h2⟩ | ⟨h1, h2⟩ | ⟨h1, h2⟩ | ⟨h1, h2⟩ | ⟨h1, h2⟩ | ⟨h1, h2⟩
          all_goals
            go_wp2
            all_goals first
              | (go_ret; exact ⟨false, rfl, rfl, by intro h; cases h⟩)
              | (exfalso; rename_i hl; simp at hl; omega)
      · go_wp2
        go_ret
        refine ⟨true, rfl, rfl, fun _ => ⟨?_, ?_⟩⟩
        · intro e; have := congrArg List.length e; simp at this; exact h0 (by simp [this])
        · have := HN.out
          rwa [List.take_of_length_le (by simp; omega)] at this
end Go.Proofs.Qxb6603659aDoor
