/-
  The clones.
-/
import Derived.Test.Qxb6603875aDoorV1
namespace Go.Proofs.Qxb6603875aDoor
open Go.RowKit
set_option linter.unusedVariables false

/-- block B holds a row of len cells, the first k of them Q; nothing below it has turned -/
structure Half (Q : Value → Prop) (w wr : World) (B : Nat) (t : TypeId) (len k : Nat) : Prop where
  row : ∃ f, wr.rowIs B t len f ∧ ∀ j, j < k → Q (f j)
  below : Below B w wr

theorem Half.start {Q : Value → Prop} (w : World) (z : Value) (t : TypeId) (len : Nat) : Half Q w (w.alloc (.cells (madeCells #[z] len) t)) w.heap.size t len 0 :=
  ⟨⟨_, World.rowIs_made w z len t, fun j hj => absurd hj (Nat.not_lt_zero _)⟩, (Below.refl _ _).alloc (Nat.le_refl _) _⟩

theorem Half.set {Q : Value → Prop} {w wr : World} {B : Nat} {t : TypeId} {len k : Nat} (h : Half Q w wr B t len k) {x : Value} (hx : Q x) : Half Q w (wr.setCell ⟨B, k, none⟩ x) B t len (k + 1) := by
  obtain ⟨⟨f, hr, hf⟩, hb⟩ := h
  refine ⟨⟨_, hr.set k x, fun j hj => ?_⟩, hb.setCell (Nat.le_refl _) _⟩
  by_cases e : j = k
  · simp [e, hx]
  · simp only [e, if_false]; exact hf j (by omega)

theorem Half.cell {Q : Value → Prop} {w wr : World} {B : Nat} {t : TypeId} {len k : Nat} (h : Half Q w wr B t len k) (j : Nat) (hj : j < len) : ∃ x, wr.cell? ⟨B, j, none⟩ = some x := by
  obtain ⟨⟨f, hr, _⟩, _⟩ := h
  exact ⟨_, hr.cell hj⟩

theorem Half.frozen {Q : Value → Prop} {w wr : World} {B : Nat} {t : TypeId} {len k : Nat} (h : Half Q w wr B t len k) (j : Nat) : wr.frozen? ⟨B, j, none⟩ = false := by
  obtain ⟨⟨f, hr, _⟩, _⟩ := h
  exact hr.frozen j

theorem Half.done {Q : Value → Prop} {w wr : World} {B : Nat} {t : TypeId} {len : Nat} (h : Half Q w wr B t len len) : SlAt Q wr (.slice (some ⟨B, 0, none⟩) len len) len := by
  obtain ⟨⟨f, hr, hf⟩, _⟩ := h
  refine ⟨_, _, rfl, Or.inr ⟨B, 0, rfl, hr.lt, fun j hj => ⟨f j, ?_, hf j hj⟩⟩⟩
  rw [Nat.zero_add]; exact hr.cell hj

set_option maxRecDepth 100000 in
set_option maxHeartbeats 1000000 in
theorem cloneStrings_any (v : Value) (len : Nat) (w : World) (h : SlAt IsStr w v len) (hlen : 16 * len ≤ 281474976710656) : Calls Tryd.prog 11 #[v] w (AnsS IsStr w len) := by
  obtain ⟨a, cap, rfl, h⟩ := h
  have h63 : len ≤ 9223372036854775807 := by omega
  have hmk := run_make_row' (P := Tryd.prog) 22 9 (.string ⟨#[]⟩) 16 Tryd.underlying22 Tryd.info9 rfl .i64 .i64 len hlen h63
  cases a with
  | none =>
    have he : ∀ w : World, (binOp .eql 22 (.slice none len cap) (.slice none 0 0)).run Tryd.prog w = .ok (.bool true) w := fun w => Lib.run_eql_slice_nil w _ _ _ _ _ _ _ Tryd.underlying22
    go_enter Tryd.func11, Tryd.ntmps11
    go_wp2
    go_ret
    rcases h with h0 | ⟨b, off, ha, _⟩
    · subst h0; exact ⟨_, rfl, ⟨_, _, rfl, Or.inl rfl⟩, Below.refl _ _⟩
    · cases ha
  | some a =>
    have he : ∀ w : World, (binOp .eql 22 (.slice (some a) len cap) (.slice none 0 0)).run Tryd.prog w = .ok (.bool false) w := fun w => Lib.run_eql_slice_nil w _ _ _ _ _ _ _ Tryd.underlying22
    go_enter Tryd.func11, Tryd.ntmps11
    go_wp2
    have hH : Half IsStr w (w.alloc (.cells (madeCells #[(.string ⟨#[]⟩)] len) 9)) w.heap.size 9 len 0 := Half.start w _ _ _
    generalize w.alloc (.cells (madeCells #[(.string ⟨#[]⟩)] len) 9) = w1 at *
    have HC : Hid (len = 0 ∨ ∃ b off, some a = some (⟨b, off, none⟩ : Addr) ∧ b < w.heap.size ∧ ∀ j, j < len → ∃ x, w.cell? ⟨b, off + j, none⟩ = some x ∧ IsStr x) := h
    clear h hmk
    have HB : Hid (Below w.heap.size w w1) := hH.below
    generalize hB : w.heap.size = B at *
    go_loopw [4] (fun i wr => ∃ k : Nat, k ≤ len ∧ i = .int .i64 k ∧ Half IsStr w wr B 9 len k) (fun i _ => len - (intOf i).toNat)
    case atStart => exact ⟨0, Nat.zero_le _, rfl, hH⟩
    case round =>
      obtain ⟨k, hk, rfl, hr⟩ := hrel
      by_cases hkl : k < len
      · rcases HC.out with h0 | ⟨b, off, ha, hlt, hc⟩
        · exact absurd hkl (by omega)
        · cases ha
          obtain ⟨x, hx0, hQ⟩ := hc k hkl
          have hx : wr.cell? ⟨b, off + k, none⟩ = some x := (hr.below.cell (by exact hlt)).trans hx0
          obtain ⟨y, hy⟩ := hr.cell k hkl
          have hfz := hr.frozen k
          have R := hr.set hQ
          obtain ⟨s, rfl, hs⟩ := hQ
          clear hx0 hc HC HB
          go_wp2
          go_roundw
          case rel => exact ⟨k + 1, by omega, by go_num, R⟩
          case measure => simp [intOf]; omega
      · have : k = len := by omega
        subst this
        clear HC HB
        go_wp2
        go_ret
        exact ⟨_, rfl, hr.done, by rw [hB]; exact hr.below⟩

set_option maxRecDepth 100000 in
set_option maxHeartbeats 1000000 in
theorem cloneFloats_any (v : Value) (len : Nat) (w : World) (h : SlAt IsFlt w v len) (hlen : 8 * len ≤ 281474976710656) : Calls Tryd.prog 15 #[v] w (AnsS IsFlt w len) := by
  obtain ⟨a, cap, rfl, h⟩ := h
  have h63 : len ≤ 9223372036854775807 := by omega
  have hmk := run_make_row' (P := Tryd.prog) 30 40 (.float .f64 0) 8 Tryd.underlying30 Tryd.info40 rfl .i64 .i64 len hlen h63
  cases a with
  | none =>
    have he : ∀ w : World, (binOp .eql 30 (.slice none len cap) (.slice none 0 0)).run Tryd.prog w = .ok (.bool true) w := fun w => Lib.run_eql_slice_nil w _ _ _ _ _ _ _ Tryd.underlying30
    go_enter Tryd.func15, Tryd.ntmps15
    go_wp2
    go_ret
    rcases h with h0 | ⟨b, off, ha, _⟩
    · subst h0; exact ⟨_, rfl, ⟨_, _, rfl, Or.inl rfl⟩, Below.refl _ _⟩
    · cases ha
  | some a =>
    have he : ∀ w : World, (binOp .eql 30 (.slice (some a) len cap) (.slice none 0 0)).run Tryd.prog w = .ok (.bool false) w := fun w => Lib.run_eql_slice_nil w _ _ _ _ _ _ _ Tryd.underlying30
    go_enter Tryd.func15, Tryd.ntmps15
    go_wp2
    have hH : Half IsFlt w (w.alloc (.cells (madeCells #[(.float .f64 0)] len) 40)) w.heap.size 40 len 0 := Half.start w _ _ _
    generalize w.alloc (.cells (madeCells #[(.float .f64 0)] len) 40) = w1 at *
    have HC : Hid (len = 0 ∨ ∃ b off, some a = some (⟨b, off, none⟩ : Addr) ∧ b < w.heap.size ∧ ∀ j, j < len → ∃ x, w.cell? ⟨b, off + j, none⟩ = some x ∧ IsFlt x) := h
    clear h hmk
    have HB : Hid (Below w.heap.size w w1) := hH.below
    generalize hB : w.heap.size = B at *
    go_loopw [4] (fun i wr => ∃ k : Nat, k ≤ len ∧ i = .int .i64 k ∧ Half IsFlt w wr B 40 len k) (fun i _ => len - (intOf i).toNat)
    case atStart => exact ⟨0, Nat.zero_le _, rfl, hH⟩
    case round =>
      obtain ⟨k, hk, rfl, hr⟩ := hrel
      by_cases hkl : k < len
      · rcases HC.out with h0 | ⟨b, off, ha, hlt, hc⟩
        · exact absurd hkl (by omega)
        · cases ha
          obtain ⟨x, hx0, hQ⟩ := hc k hkl
          have hx : wr.cell? ⟨b, off + k, none⟩ = some x := (hr.below.cell (by exact hlt)).trans hx0
          obtain ⟨y, hy⟩ := hr.cell k hkl
          have hfz := hr.frozen k
          have R := hr.set hQ
          obtain ⟨s, rfl⟩ := hQ
          clear hx0 hc HC HB
          have hst := fun (m : Mode) => run_store Tryd.prog wr ⟨B, k, none⟩ (.float .f64 s) m rfl
          go_wp2
          go_roundw
          case rel => exact ⟨k + 1, by omega, by go_num, R⟩
          case measure => simp [intOf]; omega
      · have : k = len := by omega
        subst this
        clear HC HB
        go_wp2
        go_ret
        exact ⟨_, rfl, hr.done, by rw [hB]; exact hr.below⟩

set_option maxRecDepth 100000 in
set_option maxHeartbeats 1000000 in
theorem cloneInts_any (v : Value) (len : Nat) (w : World) (h : SlAt IsInt w v len) (hlen : 8 * len ≤ 281474976710656) : Calls Tryd.prog 16 #[v] w (AnsS IsInt w len) := by
  obtain ⟨a, cap, rfl, h⟩ := h
  have h63 : len ≤ 9223372036854775807 := by omega
  have hmk := run_make_row' (P := Tryd.prog) 31 3 (.int .i64 0) 8 Tryd.underlying31 Tryd.info3 rfl .i64 .i64 len hlen h63
  cases a with
  | none =>
    have he : ∀ w : World, (binOp .eql 31 (.slice none len cap) (.slice none 0 0)).run Tryd.prog w = .ok (.bool true) w := fun w => Lib.run_eql_slice_nil w _ _ _ _ _ _ _ Tryd.underlying31
    go_enter Tryd.func16, Tryd.ntmps16
    go_wp2
    go_ret
    rcases h with h0 | ⟨b, off, ha, _⟩
    · subst h0; exact ⟨_, rfl, ⟨_, _, rfl, Or.inl rfl⟩, Below.refl _ _⟩
    · cases ha
  | some a =>
    have he : ∀ w : World, (binOp .eql 31 (.slice (some a) len cap) (.slice none 0 0)).run Tryd.prog w = .ok (.bool false) w := fun w => Lib.run_eql_slice_nil w _ _ _ _ _ _ _ Tryd.underlying31
    go_enter Tryd.func16, Tryd.ntmps16
    go_wp2
    have hH : Half IsInt w (w.alloc (.cells (madeCells #[(.int .i64 0)] len) 3)) w.heap.size 3 len 0 := Half.start w _ _ _
    generalize w.alloc (.cells (madeCells #[(.int .i64 0)] len) 3) = w1 at *
    have HC : Hid (len = 0 ∨ ∃ b off, some a = some (⟨b, off, none⟩ : Addr) ∧ b < w.heap.size ∧ ∀ j, j < len → ∃ x, w.cell? ⟨b, off + j, none⟩ = some x ∧ IsInt x) := h
    clear h hmk
    have HB : Hid (Below w.heap.size w w1) := hH.below
    generalize hB : w.heap.size = B at *
    go_loopw [4] (fun i wr => ∃ k : Nat, k ≤ len ∧ i = .int .i64 k ∧ Half IsInt w wr B 3 len k) (fun i _ => len - (intOf i).toNat)
    case atStart => exact ⟨0, Nat.zero_le _, rfl, hH⟩
    case round =>
      obtain ⟨k, hk, rfl, hr⟩ := hrel
      by_cases hkl : k < len
      · rcases HC.out with h0 | ⟨b, off, ha, hlt, hc⟩
        · exact absurd hkl (by omega)
        · cases ha
          obtain ⟨x, hx0, hQ⟩ := hc k hkl
          have hx : wr.cell? ⟨b, off + k, none⟩ = some x := (hr.below.cell (by exact hlt)).trans hx0
          obtain ⟨y, hy⟩ := hr.cell k hkl
          have hfz := hr.frozen k
          have R := hr.set hQ
          obtain ⟨s, rfl, hs1, hs2⟩ := hQ
          clear hx0 hc HC HB
          go_wp2
          go_roundw
          case rel => exact ⟨k + 1, by omega, by go_num, R⟩
          case measure => simp [intOf]; omega
      · have : k = len := by omega
        subst this
        clear HC HB
        go_wp2
        go_ret
        exact ⟨_, rfl, hr.done, by rw [hB]; exact hr.below⟩

end Go.Proofs.Qxb6603875aDoor
