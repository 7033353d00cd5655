/-
  For statement 5: bytes, new rows of strings, slices of slices of strings.
-/
import Derived.Test.Qxb6603875aDoorV2
namespace Go.Proofs.Qxb6603875aDoor
open Go.RowKit
set_option linter.unusedVariables false

def IsByte (x : Value) : Prop := ∃ z : Int, x = .int .u8 z
theorem Tryd.info5 : (Tryd.prog.info? 5).map (fun i => (i.zero, i.size, i.bytes)) = some (some (.int .u8 0), 1, 1) := by kernel_rfl
theorem Tryd.info22 : (Tryd.prog.info? 22).map (fun i => (i.zero, i.size, i.bytes)) = some (some (.slice none 0 0), 1, 24) := by kernel_rfl

/-- SlAt, the row lying from block B on -/
def SlNew (Q : Value → Prop) (B : Nat) (w : World) (v : Value) (len : Nat) : Prop :=
  ∃ a cap, v = .slice a len cap ∧ (len = 0 ∨ ∃ b off, a = some ⟨b, off, none⟩ ∧ B ≤ b ∧ b < w.heap.size ∧ ∀ j, j < len → ∃ x, w.cell? ⟨b, off + j, none⟩ = some x ∧ Q x)

theorem SlNew.slAt {Q : Value → Prop} {B : Nat} {w : World} {v : Value} {len : Nat} (h : SlNew Q B w v len) : SlAt Q w v len := by
  obtain ⟨a, cap, rfl, h⟩ := h
  rcases h with h | ⟨b, off, rfl, _, hlt, hc⟩
  · exact ⟨a, cap, rfl, Or.inl h⟩
  · exact ⟨_, cap, rfl, Or.inr ⟨b, off, rfl, hlt, hc⟩⟩

theorem SlNew.mono {Q : Value → Prop} {B B' : Nat} {w : World} {v : Value} {len : Nat} (h : SlNew Q B w v len) (hB : B' ≤ B) : SlNew Q B' w v len := by
  obtain ⟨a, cap, rfl, h⟩ := h
  rcases h with h | ⟨b, off, rfl, hb, hlt, hc⟩
  · exact ⟨a, cap, rfl, Or.inl h⟩
  · exact ⟨_, cap, rfl, Or.inr ⟨b, off, rfl, by omega, hlt, hc⟩⟩

theorem SlNew.below {Q : Value → Prop} {B : Nat} {w w' : World} {v : Value} {len : Nat} (h : SlNew Q B w v len) (hb : Below w.heap.size w w') : SlNew Q B w' v len := by
  obtain ⟨a, cap, rfl, h⟩ := h
  rcases h with h | ⟨b, off, rfl, hB, hlt, hc⟩
  · exact ⟨a, cap, rfl, Or.inl h⟩
  · refine ⟨_, cap, rfl, Or.inr ⟨b, off, rfl, hB, Nat.lt_of_lt_of_le hlt hb.size, fun j hj => ?_⟩⟩
    obtain ⟨x, hx, q⟩ := hc j hj
    exact ⟨x, (hb.cell (by exact hlt)).trans hx, q⟩

theorem SlNew.set {Q : Value → Prop} {B : Nat} {w : World} {v : Value} {len : Nat} (h : SlNew Q (B + 1) w v len) (o : Nat) (u : Value) : SlNew Q (B + 1) (w.setCell ⟨B, o, none⟩ u) v len := by
  obtain ⟨a, cap, rfl, h⟩ := h
  rcases h with h | ⟨b, off, rfl, hB, hlt, hc⟩
  · exact ⟨a, cap, rfl, Or.inl h⟩
  · refine ⟨_, cap, rfl, Or.inr ⟨b, off, rfl, hB, by rw [Deep.nblk_setCell]; exact hlt, fun j hj => ?_⟩⟩
    obtain ⟨x, hx, q⟩ := hc j hj
    refine ⟨x, (World.cell?_of_block (w := w) ?_).trans hx, q⟩
    exact Deep.blk_setCell_other _ _ _ _ (by show b ≠ B; omega)

def AnsSN (Q : Value → Prop) (w : World) (len : Nat) : Ending → World → Prop := fun e w' => ∃ v, e = .returned v ∧ SlNew Q w.heap.size w' v len ∧ Below w.heap.size w w'

theorem Half.doneN {Q : Value → Prop} {w wr : World} {B : Nat} {t : TypeId} {len B' : Nat} (h : Half Q w wr B t len len) (hB : B' ≤ B) : SlNew Q B' wr (.slice (some ⟨B, 0, none⟩) len len) len := by
  obtain ⟨⟨f, hr, hf⟩, _⟩ := h
  refine ⟨_, _, rfl, Or.inr ⟨B, 0, rfl, hB, hr.lt, fun j hj => ⟨f j, ?_, hf j hj⟩⟩⟩
  rw [Nat.zero_add]; exact hr.cell hj

set_option maxRecDepth 100000 in
set_option maxHeartbeats 1000000 in
theorem cloneBytes_any (v : Value) (len : Nat) (w : World) (h : SlAt IsByte w v len) (hlen : 1 * len ≤ 281474976710656) : Calls Tryd.prog 21 #[v] w (AnsS IsByte w len) := by
  obtain ⟨a, cap, rfl, h⟩ := h
  have h63 : len ≤ 9223372036854775807 := by omega
  have hmk := run_make_row' (P := Tryd.prog) 43 5 (.int .u8 0) 1 Tryd.underlying43 Tryd.info5 rfl .i64 .i64 len hlen h63
  cases a with
  | none =>
    have he : ∀ w : World, (binOp .eql 43 (.slice none len cap) (.slice none 0 0)).run Tryd.prog w = .ok (.bool true) w := fun w => Lib.run_eql_slice_nil w _ _ _ _ _ _ _ Tryd.underlying43
    go_enter Tryd.func21, Tryd.ntmps21
    go_wp2
    go_ret
    rcases h with h0 | ⟨b, off, ha, _⟩
    · subst h0; exact ⟨_, rfl, ⟨_, _, rfl, Or.inl rfl⟩, Below.refl _ _⟩
    · cases ha
  | some a =>
    have he : ∀ w : World, (binOp .eql 43 (.slice (some a) len cap) (.slice none 0 0)).run Tryd.prog w = .ok (.bool false) w := fun w => Lib.run_eql_slice_nil w _ _ _ _ _ _ _ Tryd.underlying43
    go_enter Tryd.func21, Tryd.ntmps21
    go_wp2
    have hH : Half IsByte w (w.alloc (.cells (madeCells #[(.int .u8 0)] len) 5)) w.heap.size 5 len 0 := Half.start w _ _ _
    generalize w.alloc (.cells (madeCells #[(.int .u8 0)] len) 5) = w1 at *
    have HC : Hid (len = 0 ∨ ∃ b off, some a = some (⟨b, off, none⟩ : Addr) ∧ b < w.heap.size ∧ ∀ j, j < len → ∃ x, w.cell? ⟨b, off + j, none⟩ = some x ∧ IsByte x) := h
    clear h hmk
    have HB : Hid (Below w.heap.size w w1) := hH.below
    generalize hB : w.heap.size = B at *
    go_loopw [4] (fun i wr => ∃ k : Nat, k ≤ len ∧ i = .int .i64 k ∧ Half IsByte w wr B 5 len k) (fun i _ => len - (intOf i).toNat)
    case atStart => exact ⟨0, Nat.zero_le _, rfl, hH⟩
    case round =>
      obtain ⟨k, hk, rfl, hr⟩ := hrel
      by_cases hkl : k < len
      · rcases HC.out with h0 | ⟨b, off, ha, hlt, hc⟩
        · exact absurd hkl (by omega)
        · cases ha
          obtain ⟨x, hx0, hQ⟩ := hc k hkl
          have hx : wr.cell? ⟨b, off + k, none⟩ = some x := (hr.below.cell (by exact hlt)).trans hx0
          obtain ⟨y, hy⟩ := hr.cell k hkl
          have hfz := hr.frozen k
          have R := hr.set hQ
          obtain ⟨s, rfl⟩ := hQ
          clear hx0 hc HC HB
          go_wp2
          go_roundw
          case rel => exact ⟨k + 1, by omega, by go_num, R⟩
          case measure => simp [intOf]; omega
      · have : k = len := by omega
        subst this
        clear HC HB
        go_wp2
        go_ret
        exact ⟨_, rfl, hr.done, by rw [hB]; exact hr.below⟩

set_option maxRecDepth 100000 in
set_option maxHeartbeats 1000000 in
theorem cloneStrings_new (v : Value) (len : Nat) (w : World) (h : SlAt IsStr w v len) (hlen : 16 * len ≤ 281474976710656) : Calls Tryd.prog 11 #[v] w (AnsSN IsStr w len) := by
  obtain ⟨a, cap, rfl, h⟩ := h
  have h63 : len ≤ 9223372036854775807 := by omega
  have hmk := run_make_row' (P := Tryd.prog) 22 9 (.string ⟨#[]⟩) 16 Tryd.underlying22 Tryd.info9 rfl .i64 .i64 len hlen h63
  cases a with
  | none =>
    have he : ∀ w : World, (binOp .eql 22 (.slice none len cap) (.slice none 0 0)).run Tryd.prog w = .ok (.bool true) w := fun w => Lib.run_eql_slice_nil w _ _ _ _ _ _ _ Tryd.underlying22
    go_enter Tryd.func11, Tryd.ntmps11
    go_wp2
    go_ret
    rcases h with h0 | ⟨b, off, ha, _⟩
    · subst h0; exact ⟨_, rfl, ⟨_, _, rfl, Or.inl rfl⟩, Below.refl _ _⟩
    · cases ha
  | some a =>
    have he : ∀ w : World, (binOp .eql 22 (.slice (some a) len cap) (.slice none 0 0)).run Tryd.prog w = .ok (.bool false) w := fun w => Lib.run_eql_slice_nil w _ _ _ _ _ _ _ Tryd.underlying22
    go_enter Tryd.func11, Tryd.ntmps11
    go_wp2
    have hH : Half IsStr w (w.alloc (.cells (madeCells #[(.string ⟨#[]⟩)] len) 9)) w.heap.size 9 len 0 := Half.start w _ _ _
    generalize w.alloc (.cells (madeCells #[(.string ⟨#[]⟩)] len) 9) = w1 at *
    have HC : Hid (len = 0 ∨ ∃ b off, some a = some (⟨b, off, none⟩ : Addr) ∧ b < w.heap.size ∧ ∀ j, j < len → ∃ x, w.cell? ⟨b, off + j, none⟩ = some x ∧ IsStr x) := h
    clear h hmk
    have HB : Hid (Below w.heap.size w w1) := hH.below
    generalize hB : w.heap.size = B at *
    go_loopw [4] (fun i wr => ∃ k : Nat, k ≤ len ∧ i = .int .i64 k ∧ Half IsStr w wr B 9 len k) (fun i _ => len - (intOf i).toNat)
    case atStart => exact ⟨0, Nat.zero_le _, rfl, hH⟩
    case round =>
      obtain ⟨k, hk, rfl, hr⟩ := hrel
      by_cases hkl : k < len
      · rcases HC.out with h0 | ⟨b, off, ha, hlt, hc⟩
        · exact absurd hkl (by omega)
        · cases ha
          obtain ⟨x, hx0, hQ⟩ := hc k hkl
          have hx : wr.cell? ⟨b, off + k, none⟩ = some x := (hr.below.cell (by exact hlt)).trans hx0
          obtain ⟨y, hy⟩ := hr.cell k hkl
          have hfz := hr.frozen k
          have R := hr.set hQ
          obtain ⟨s, rfl, hs⟩ := hQ
          clear hx0 hc HC HB
          go_wp2
          go_roundw
          case rel => exact ⟨k + 1, by omega, by go_num, R⟩
          case measure => simp [intOf]; omega
      · have : k = len := by omega
        subst this
        clear HC HB
        go_wp2
        go_ret
        exact ⟨_, rfl, hr.doneN (by rw [hB]; exact Nat.le_refl _), by rw [hB]; exact hr.below⟩

end Go.Proofs.Qxb6603875aDoor
