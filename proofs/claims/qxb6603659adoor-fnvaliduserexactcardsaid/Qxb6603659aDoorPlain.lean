/-
  The plain law: what a name's part is, rune by rune; how a text parts at an '@'. No Go in sight.
-/
import Derived.Lib.ValidLaws
import Derived.Lib.IndexMore
import Derived.Lib.IsU
import Derived.Lib.FieldsU
import Derived.Shelf.Unicode.IsSpaceAny
namespace Go.Proofs.Qxb6603659aDoor
open Go Go.Lib

/-! ### decoding at the head of a list -/
theorem get_list (l : List UInt8) (i : Nat) : (⟨l.toArray⟩ : ByteArray).get! i = l.getD i 0 := by
  show l.toArray[i]! = l.getD i 0
  by_cases h : i < l.length
  · rw [getElem!_pos l.toArray i (by simpa using h)]; simp [List.getD, h]
  · rw [getElem!_neg l.toArray i (by simpa using h)]; simp [List.getD, h]; rfl

theorem decodeL_N (l : List UInt8) : decodeL l = decodeN l.length (l.getD 0 0).toNat (l.getD 1 0).toNat (l.getD 2 0).toNat (l.getD 3 0).toNat := by
  unfold decodeL
  rw [decode_at, get_list, get_list, get_list, get_list]
  rfl

/-- what follows behind an ASCII byte does not bear on the rune at the head -/
theorem decodeL_app (a b : List UInt8) (x : UInt8) (ha : a ≠ []) (hx : x.toNat < 128) : decodeL (a ++ x :: b) = decodeL a := by
  have hx2 : ¬ x.toNat / 64 = 2 := by omega
  rw [decodeL_N, decodeL_N]
  match a, ha with
  | [a0], _ => simp [decodeN, hx2]
  | [a0, a1], _ => simp [decodeN, hx2]
  | [a0, a1, a2], _ => simp [decodeN, hx2]
  | a0 :: a1 :: a2 :: a3 :: t, _ => simp [decodeN]

theorem decodeL_le (l : List UInt8) (h : l ≠ []) : (decodeL l).2 ≤ l.length := by
  rw [decodeL_N]; exact decodeN_le_n' _ _ _ _ _ (List.length_pos_iff.2 h)

/-- the rune at the head: an ASCII byte; or ill-formed; or two to four bytes, none of them ASCII -/
theorem decodeL_head (l : List UInt8) (_h : l ≠ []) :
    ((decodeL l).2 = 1 ∧ (decodeL l).1 = (l.getD 0 0).toNat ∧ (l.getD 0 0).toNat < 128) ∨ (decodeL l = (65533, 1) ∧ 128 ≤ (l.getD 0 0).toNat) ∨
    (128 ≤ (decodeL l).1 ∧ 2 ≤ (decodeL l).2 ∧ ∀ c ∈ l.take (decodeL l).2, 128 ≤ c.toNat) := by
  have hD := decodeL_N l
  by_cases h0 : (l.getD 0 0).toNat < 128
  · left
    rw [hD]
    unfold decodeN
    rw [if_pos h0]
    exact ⟨rfl, rfl, h0⟩
  · right
    have t2 : ∀ k, (∀ i, i < k → 128 ≤ (l.getD i 0).toNat) → ∀ c ∈ l.take k, 128 ≤ c.toNat := by
      intro k hk c hc
      obtain ⟨i, hi, rfl⟩ := List.getElem_of_mem hc
      rw [List.length_take] at hi
      have := hk i (by omega)
      rw [List.getElem_take]
      simpa [List.getD, List.getElem?_eq_getElem (show i < l.length by omega)] using this
    unfold decodeN at hD
    rw [if_neg h0] at hD
    split at hD
    · rename_i hc
      split at hD
      · right
        rw [hD]
        refine ⟨by simp only; omega, by simp only; omega, t2 2 fun i hi => ?_⟩
        match i, hi with
        | 0, _ => omega
        | 1, _ => omega
      · left; exact ⟨hD, by omega⟩
    · split at hD
      · rename_i hc
        split at hD
        · rename_i hc2
          right
          rw [hD]
          refine ⟨by simp only; omega, by simp only; omega, t2 3 fun i hi => ?_⟩
          match i, hi with
          | 0, _ => omega
          | 1, _ => omega
          | 2, _ => omega
        · left; exact ⟨hD, by omega⟩
      · split at hD
        · rename_i hc
          split at hD
          · rename_i hc2
            right
            rw [hD]
            refine ⟨by simp only; omega, by simp only; omega, t2 4 fun i hi => ?_⟩
            match i, hi with
            | 0, _ => omega
            | 1, _ => omega
            | 2, _ => omega
            | 3, _ => omega
          · left; exact ⟨hD, by omega⟩
        · left; exact ⟨hD, by omega⟩

/-! ### all runes -/
def allGo (p : Nat → Bool) : Nat → List UInt8 → Bool
  | 0, _ => true
  | n + 1, l => if l = [] then true else if p (decodeL l).1 then allGo p n (l.drop (decodeL l).2) else false
def allR (p : Nat → Bool) (l : List UInt8) : Bool := allGo p l.length l

theorem allGo_nil (p : Nat → Bool) : ∀ n, allGo p n [] = true
  | 0 => rfl
  | _ + 1 => by simp [allGo]
theorem allGo_fuel (p : Nat → Bool) : ∀ (n m : Nat) (l : List UInt8), l.length ≤ n → l.length ≤ m → allGo p n l = allGo p m l
  | 0, m, l, hn, _ => by
    have : l = [] := List.eq_nil_of_length_eq_zero (by omega)
    subst this
    rw [allGo_nil, allGo_nil]
  | n + 1, 0, l, _, hm => by
    have : l = [] := List.eq_nil_of_length_eq_zero (by omega)
    subst this
    rw [allGo_nil, allGo_nil]
  | n + 1, m + 1, l, hn, hm => by
    unfold allGo
    by_cases hne : l = []
    · simp [hne]
    · have hw := decodeL_width l
      have hl : 0 < l.length := List.length_pos_iff.2 hne
      rw [if_neg hne, if_neg hne, allGo_fuel p n m (l.drop (decodeL l).2) (by rw [List.length_drop]; omega) (by rw [List.length_drop]; omega)]
theorem allR_nil (p : Nat → Bool) : allR p [] = true := rfl
theorem allR_step (p : Nat → Bool) (l : List UInt8) (hne : l ≠ []) : allR p l = if p (decodeL l).1 then allR p (l.drop (decodeL l).2) else false := by
  have hl : 0 < l.length := List.length_pos_iff.2 hne
  have hw := decodeL_width l
  obtain ⟨n, hn⟩ : ∃ n, l.length = n + 1 := ⟨l.length - 1, by omega⟩
  unfold allR
  rw [hn]
  show (if l = [] then true else _) = _
  rw [if_neg hne, allGo_fuel p n (l.drop (decodeL l).2).length _ (by rw [List.length_drop]; omega) (Nat.le_refl _)]

theorem list_rec {P : List UInt8 → Prop} (h0 : P []) (h1 : ∀ l, l ≠ [] → P (l.drop (decodeL l).2) → P l) (l : List UInt8) : P l := by
  obtain ⟨n, hn⟩ : ∃ n, l.length ≤ n := ⟨_, Nat.le_refl _⟩
  induction n generalizing l with
  | zero => obtain rfl : l = [] := List.eq_nil_of_length_eq_zero (by omega); exact h0
  | succ n ih =>
    by_cases hne : l = []
    · subst hne; exact h0
    · have hw := decodeL_width l
      have hl : 0 < l.length := List.length_pos_iff.2 hne
      exact h1 l hne (ih _ (by rw [List.length_drop]; omega))

theorem drop_app (a b : List UInt8) (x : UInt8) (ha : a ≠ []) : (a ++ x :: b).drop (decodeL a).2 = a.drop (decodeL a).2 ++ x :: b :=
  List.drop_append_of_le_length (decodeL_le a ha)

/-- a text, parted at an ASCII byte -/
theorem allR_app (p : Nat → Bool) (a b : List UInt8) (x : UInt8) (hx : x.toNat < 128) : allR p (a ++ x :: b) = (allR p a && (p x.toNat && allR p b)) := by
  refine list_rec (P := fun a => allR p (a ++ x :: b) = (allR p a && (p x.toNat && allR p b))) ?_ ?_ a
  · show allR p (x :: b) = _
    rw [allR_step _ _ (by simp), decodeL_ascii x b hx, allR_nil]
    cases p x.toNat <;> simp
  · intro l hl ih
    rw [allR_step p (l ++ x :: b) (by simp), decodeL_app l b x hl hx, drop_app l b x hl, ih, allR_step p l hl]
    cases p (decodeL l).1 <;> simp
theorem validD_app (a b : List UInt8) (x : UInt8) (hx : x.toNat < 128) : validD (a ++ x :: b) = (validD a && validD b) := by
  refine list_rec (P := fun a => validD (a ++ x :: b) = (validD a && validD b)) ?_ ?_ a
  · show validD (x :: b) = _
    rw [validD_cons x b hx, validD_nil, Bool.true_and]
  · intro l hl ih
    rw [validD_step (l ++ x :: b) (by simp), decodeL_app l b x hl hx, drop_app l b x hl, ih, validD_step l hl]
    split <;> simp

/-- a byte below 128 of a well-formed text is a rune of it -/
theorem allR_mem (p : Nat → Bool) (l : List UInt8) (hv : validD l = true) (ha : allR p l = true) (c : UInt8) (hc : c ∈ l) (h8 : c.toNat < 128) : p c.toNat = true := by
  refine list_rec (P := fun l => validD l = true → allR p l = true → c ∈ l → p c.toNat = true) ?_ ?_ l hv ha hc
  · intro _ _ h; simp at h
  · intro l hl ih hv ha hc
    rw [validD_step l hl] at hv
    rw [allR_step p l hl] at ha
    have hp : p (decodeL l).1 = true := by
      cases hp : p (decodeL l).1 with
      | true => rfl
      | false => rw [hp] at ha; simp at ha
    rw [hp] at ha
    simp only [if_true] at ha
    by_cases hbad : (decodeL l).1 = 65533 ∧ (decodeL l).2 = 1
    · rw [if_pos hbad] at hv; cases hv
    · rw [if_neg hbad] at hv
      rw [← List.take_append_drop (decodeL l).2 l] at hc
      rcases List.mem_append.1 hc with h | h
      · rcases decodeL_head l hl with ⟨h1, h2, h3⟩ | ⟨h1, _⟩ | ⟨_, _, h3⟩
        · rw [h1] at h
          match l, hl with
          | x :: t, _ =>
            simp at h
            subst h
            rw [h2] at hp
            simpa using hp
        · exact absurd ⟨by rw [h1], by rw [h1]⟩ hbad
        · have := h3 c h; omega
      · exact ih hv ha h

/-! ### a part of a name -/
/-- white space, a control character, one of the six -/
def refB (c : Nat) : Bool := isSpaceZ (c : Int) || isControlU (c : Int) || [64, 44, 58, 35, 47, 42].contains c
/-- what validNamePart answers -/
def VP (l : List UInt8) : Bool := !l.isEmpty && validD l && allR (fun c => !refB c) l
/-- what validUser answers -/
def VU (l : List UInt8) : Bool := (cut l [64]).2.2 && VP (cut l [64]).1 && VP (cut l [64]).2.1

theorem VP_at (l : List UInt8) (h : VP l = true) : (64 : UInt8) ∉ l := by
  intro hm
  unfold VP at h
  simp only [Bool.and_eq_true] at h
  have := allR_mem _ l h.1.2 h.2 64 hm (by decide)
  revert this
  decide

theorem index_at (a b : List UInt8) (ha : (64 : UInt8) ∉ a) : index (a ++ 64 :: b) [64] = a.length := by
  refine index_first (by simp) ?_ ?_
  · simp [occAt]
  · intro j hj
    unfold occAt
    rw [List.drop_append_of_le_length (by omega), List.drop_eq_getElem_cons hj, List.cons_append, List.isPrefixOf]
    have : ((64 : UInt8) == a[j]) = false := by
      rw [beq_eq_false_iff_ne]; intro e; exact ha (e ▸ List.getElem_mem hj)
    rw [this, Bool.false_and]

theorem cut_at (a b : List UInt8) (ha : (64 : UInt8) ∉ a) : cut (a ++ 64 :: b) [64] = (a, b, true) := by
  unfold cut
  rw [index_at a b ha, if_pos (by omega)]
  simp

theorem VU_first (a b : List UInt8) (ha : (64 : UInt8) ∉ a) : VU (a ++ 64 :: b) = (VP a && VP b) := by
  unfold VU
  rw [cut_at a b ha]
  simp

theorem VP_no {l : List UInt8} (h : (64 : UInt8) ∈ l) : VP l = false := by
  cases hv : VP l with
  | false => rfl
  | true => exact absurd h (VP_at l hv)

theorem split_at (a : List UInt8) (h : (64 : UInt8) ∈ a) : ∃ x y, a = x ++ 64 :: y ∧ (64 : UInt8) ∉ x := by
  induction a with
  | nil => simp at h
  | cons c a ih =>
    by_cases hc : c = 64
    · exact ⟨[], a, by simp [hc], by simp⟩
    · obtain ⟨x, y, rfl, hx⟩ := ih (by simpa [Ne.symm hc] using h)
      exact ⟨c :: x, y, by simp, by simp [Ne.symm hc, hx]⟩

/-- the two sides, each for itself -/
theorem VU_sides (a b : List UInt8) : VU (a ++ 64 :: b) = (VP a && VP b) := by
  by_cases ha : (64 : UInt8) ∈ a
  · obtain ⟨x, y, rfl, hx⟩ := split_at a ha
    rw [VP_no ha, Bool.false_and, List.append_assoc, List.cons_append, VU_first x _ hx, VP_no (l := y ++ 64 :: b) (by simp), Bool.and_false]
  · exact VU_first a b ha

/-- an ASCII letter, a digit, '.', '-', '_' -/
def wordB (c : UInt8) : Bool := (97 ≤ c.toNat && c.toNat ≤ 122) || (65 ≤ c.toNat && c.toNat ≤ 90) || (48 ≤ c.toNat && c.toNat ≤ 57) || c.toNat == 46 || c.toNat == 45 || c.toNat == 95

set_option maxRecDepth 100000 in
theorem word_ok : ∀ n : Fin 256, wordB (UInt8.ofNat n.val) = true → n.val < 128 ∧ refB n.val = false := by decide +kernel

theorem word_ok' (c : UInt8) (h : wordB c = true) : c.toNat < 128 ∧ refB c.toNat = false := by
  have := word_ok ⟨c.toNat, c.toNat_lt⟩
  simp only [UInt8.ofNat_toNat] at this
  exact this h

theorem VP_word (l : List UInt8) (hne : l ≠ []) (h : ∀ c ∈ l, wordB c = true) : VP l = true := by
  have key : ∀ m : List UInt8, (∀ c ∈ m, wordB c = true) → validD m = true ∧ allR (fun c => !refB c) m = true := by
    intro m
    induction m with
    | nil => intro _; exact ⟨rfl, rfl⟩
    | cons c m ih =>
      intro hm
      obtain ⟨h1, h2⟩ := word_ok' c (hm c (by simp))
      obtain ⟨i1, i2⟩ := ih (fun x hx => hm x (by simp [hx]))
      refine ⟨by rw [validD_cons c m h1]; exact i1, ?_⟩
      rw [allR_step _ _ (by simp), decodeL_ascii c m h1]
      simpa [h2] using i2
  obtain ⟨h1, h2⟩ := key l h
  unfold VP
  rw [h1, h2]
  cases l with
  | nil => exact absurd rfl hne
  | cons _ _ => rfl
end Go.Proofs.Qxb6603659aDoor
