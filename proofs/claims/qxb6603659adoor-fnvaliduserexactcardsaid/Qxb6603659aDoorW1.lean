/-
  strings.IndexRune at a string of ASCII bytes and a rune that is no ASCII rune: -1.
-/
import Derived.Test.Qxb6603659aDoorRows
import Derived.Test.Qxb6603659aDoorPlain
import Derived.Test.Qxb6603659aDoorShelf
import Derived.WalkKit
import Derived.WalkSpells
import Derived.WalkLawsBesides
import Derived.Deep.QuietTactic
import Derived.BigQuiet
namespace Go.Proofs.Qxb6603659aDoor
open Go.RowKit
set_option linter.unusedVariables false

theorem iter_below (w : World) (s : ByteArray) (pos : Nat) : Below w.heap.size w (w.iter s pos) := (Below.refl _ _).alloc (Nat.le_refl _) _

theorem indexByte_none (l : List UInt8) (c : UInt8) (h : ∀ b ∈ l, b ≠ c) : Lib.indexByte l c = -1 := by
  induction l with
  | nil => rfl
  | cons b l ih =>
    have h1 : (b == c) = false := by simpa using h b (by simp)
    simp [Lib.indexByte, h1, ih (fun x hx => h x (by simp [hx]))]

set_option maxRecDepth 1000000 in
set_option maxHeartbeats 1000000 in
theorem indexRune_err (s : ByteArray) (w : World) (hs : ∀ b ∈ s.data.toList, b.toNat < 128) :
    Calls Tryd.prog 24 #[.string s, .int .i32 65533] w fun e w' => e = .returned (.int .i64 (-1)) ∧ Below w.heap.size w w' := by
  go_enter Tryd.func24, Tryd.ntmps24
  go_wp2
  go_loopw [5, 6] (fun _ _ w' => ∃ (pos : Nat), w' = w.iter s pos) (fun _ _ w' => s.size - w'.iterPos w.heap.size)
  case atStart => exact ⟨0, rfl⟩
  case round =>
    obtain ⟨pos, rfl⟩ := hrel
    by_cases hp : pos < s.size
    · have ha : (s[pos]'hp).toNat < 128 := hs _ (Array.getElem_mem_toList (xs := s.data) hp)
      have hnx : ∀ ty, (Instr.next (.pointer (some ⟨w.heap.size, 0, none⟩)) true ty).run Tryd.prog (w.iter s pos) = _ := fun ty => run_next_ascii w s pos ty hp ha
      go_wp2
      go_roundw
      case rel => exact ⟨_, rfl⟩
      case measure => simp; omega
    · have hnx : ∀ ty, (Instr.next (.pointer (some ⟨w.heap.size, 0, none⟩)) true ty).run Tryd.prog (w.iter s pos) = _ := fun ty => run_next_end w s pos ty hp
      go_wp2
      go_ret
      exact ⟨rfl, iter_below _ _ _⟩

set_option maxRecDepth 1000000 in
set_option maxHeartbeats 1000000 in
theorem indexRune_bad (s : ByteArray) (r : Int) (w : World) (h1 : ¬ (0 ≤ r ∧ r < 128)) (h2 : r ≠ 65533) (hv : Lib.validRune r = false) :
    Calls Tryd.prog 24 #[.string s, .int .i32 r] w fun e w' => e = .returned (.int .i64 (-1)) ∧ Below w.heap.size w w' := by
  have h2' : (r == 65533) = false := by simpa using h2
  rcases (show r < 0 ∨ 128 ≤ r by omega) with h3 | h3
  all_goals
    go_enter Tryd.func24, Tryd.ntmps24
    go_wp2_with (go_at_call 32; refine (Tryd.utf8_ValidRune _ _).mono ?_; rintro e w' ⟨rfl, rfl⟩; rw [hv])
    go_ret
    exact ⟨rfl, Below.refl _ _⟩

set_option maxRecDepth 1000000 in
set_option maxHeartbeats 1000000 in
theorem indexRune_high (s : ByteArray) (r : Int) (w : World) (hss : s.size ≤ 9223372036854775807) (hs : ∀ b ∈ s.data.toList, b.toNat < 128) (h1 : 128 ≤ r) (h2 : r ≠ 65533) (hv : Lib.validRune r = true) :
    Calls Tryd.prog 24 #[.string s, .int .i32 r] w fun e w' => e = .returned (.int .i64 (-1)) ∧ Below w.heap.size w w' := by
  have h2' : (r == 65533) = false := by simpa using h2
  obtain ⟨e1, e2, e3⟩ := encode_facts r (by rw [validRune_eq]; exact hv) h1
  obtain ⟨rs, hrs⟩ : ∃ rs, Utf8.encode r = rs := ⟨_, rfl⟩
  rw [hrs] at e1 e2 e3
  go_enter Tryd.func24, Tryd.ntmps24
  go_wp2_with (go_at_call 32; refine (Tryd.utf8_ValidRune _ _).mono ?_; rintro e w' ⟨rfl, rfl⟩; rw [hv])
  go_step3
  obtain ⟨n, hn⟩ : ∃ n, rs.size = n + 1 := ⟨rs.size - 1, by omega⟩
  have hrn : 128 ≤ (rs[n]'(by omega)).toNat := by have := e3 (by omega); simpa [hn] using this
  clear e3
  have hnn : (n : Int) < (n : Int) + 1 := by omega
  have hwr : IntKind.i64.wrap ((n : Int) + 1) = (n : Int) + 1 := wrap_small _ (by omega) (by omega)
  go_wp2
  refine wp_loop_rounds 1 ?_
  rw [rounds_succ]
  by_cases hlt : n < s.size
  · have hsn : (s[n]'hlt).toNat < 128 := hs _ (Array.getElem_mem_toList (xs := s.data) hlt)
    have hsl : ∀ wx, (Instr.slice 9 (.string s) (some (.int .i64 ((n : Int) + 1))) none none).run Tryd.prog wx = .ok (.string (s.extract (n + 1) s.size)) wx := fun wx => by
      rw [run_slice_string_from_if wx 9 s .i64 _ Tryd.underlying9, if_pos ⟨by omega, by omega⟩]; congr 3
    have hne : (((s[n]'hlt).toNat : Int) != ((rs[n]'(by omega)).toNat : Int)) = true := by rw [bne_iff_ne]; omega
    go_wp2
    go_step3
    go_wp2
    go_quiet (fail)
    have hB2 : Below w'.heap.size w' (w'.drewN nq) := Go.below_drewN (Below.refl _ _) nq
    generalize w'.drewN nq = w2 at *
    go_wp2
    go_quiet ((go_at_call 31; exact Calls.quiet_of_same (Tryd.strings_IndexByte _ _ _)))
    have hB3 : Below w'.heap.size w' (w2.drewN nq) := Go.below_drewN hB2 nq
    generalize w2.drewN nq = w3 at *
    have hib : Lib.indexByte (s.extract (n + 1) s.size).data.toList (((rs[n]'(by omega)).toNat : Int).toNat.toUInt8) = -1 := by
      refine indexByte_none _ _ fun b hb hbc => ?_
      have := hs b (mem_extract hb)
      rw [hbc] at this
      simp at this
      omega
    rw [hib]
    go_wp2
    rw [Exit.noGoto_ret]
    go_wp2
    rw [Exit.noGoto_ret]
    go_ret
    exact ⟨rfl, hB3⟩
  · go_wp2
    rw [Exit.noGoto_ret]
    go_ret
    exact ⟨rfl, Below.refl _ _⟩

/-- strings.IndexRune at a string of ASCII bytes: -1 where the rune is none of its bytes -/
theorem indexRune_miss (s : ByteArray) (r : Int) (w : World) (hss : s.size ≤ 9223372036854775807) (hs : ∀ b ∈ s.data.toList, b.toNat < 128) (h0 : 0 ≤ r) (hm : r < 128 → r.toNat.toUInt8 ∉ s.data.toList) :
    Calls Tryd.prog 24 #[.string s, .int .i32 r] w fun e w' => e = .returned (.int .i64 (-1)) ∧ Below w.heap.size w w' := by
  by_cases h1 : r < 128
  · refine (Tryd.strings_IndexRune_ascii s r w h0 h1).mono ?_
    rintro e w' ⟨rfl, rfl⟩
    rw [indexByte_none s.data.toList r.toNat.toUInt8 (fun b hb e => hm h1 (by rw [← e]; exact hb))]
    exact ⟨rfl, Below.refl _ _⟩
  · by_cases h2 : r = 65533
    · subst h2
      exact indexRune_err s w hs
    · cases hv : Lib.validRune r with
      | false => exact indexRune_bad s r w (by omega) h2 hv
      | true => exact indexRune_high s r w hss hs (by omega) h2 hv

/-- the six that no name's part may hold -/
abbrev six : ByteArray := ⟨#[64, 44, 58, 35, 47, 42]⟩
theorem six_ascii : ∀ b ∈ six.data.toList, b.toNat < 128 := by decide

set_option maxRecDepth 100000 in
theorem six_has : ∀ n : Fin 128, decide (0 ≤ Lib.indexByte six.data.toList n.val.toUInt8) = [64, 44, 58, 35, 47, 42].contains n.val := by decide +kernel

set_option maxHeartbeats 400000 in
/-- strings.ContainsRune at the six -/
theorem six_any (r : Nat) (w : World) :
    Calls Tryd.prog 20 #[.string six, .int .i32 (r : Int)] w fun e w' => e = .returned (.bool ([64, 44, 58, 35, 47, 42].contains r)) ∧ Below w.heap.size w w' := by
  by_cases h : r < 128
  · refine (Tryd.strings_ContainsRune_ascii six (r : Int) w (by omega) (by omega)).mono ?_
    rintro e w' ⟨rfl, rfl⟩
    have := six_has ⟨r, h⟩
    rw [Int.toNat_natCast, this]
    exact ⟨rfl, Below.refl _ _⟩
  · have hc : [64, 44, 58, 35, 47, 42].contains r = false := by
      rw [Bool.eq_false_iff]; intro hh
      simp at hh
      omega
    rw [hc]
    go_enter Tryd.func20, Tryd.ntmps20
    go_wp2_with (go_at_call 24; go_must (refine (indexRune_miss six (r : Int) _ (by decide) six_ascii (by omega) (fun h1 => absurd h1 (by omega))).mono ?_); rintro e w' ⟨rfl, hb⟩)
    go_ret
    exact ⟨rfl, hb⟩
end Go.Proofs.Qxb6603659aDoor
