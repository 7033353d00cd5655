/-
  For statement 5: slices of slices of strings: zzb1CloneLists.
-/
import Derived.Test.Qxb6603875aDoorG1
namespace Go.Proofs.Qxb6603875aDoor
open Go.RowKit
set_option linter.unusedVariables false

/-- v is a slice of len slices of strings, each of at most L strings -/
def LstAt (w : World) (v : Value) (len L : Nat) : Prop :=
  ∃ a cap, v = .slice a len cap ∧ (len = 0 ∨ ∃ b off, a = some ⟨b, off, none⟩ ∧ b < w.heap.size ∧ ∀ j, j < len → ∃ x n, w.cell? ⟨b, off + j, none⟩ = some x ∧ SlAt IsStr w x n ∧ n ≤ L)

theorem LstAt.below {w w' : World} {v : Value} {len L : Nat} (h : LstAt w v len L) (hb : Below w.heap.size w w') : LstAt w' v len L := by
  obtain ⟨a, cap, rfl, h⟩ := h
  refine ⟨a, cap, rfl, ?_⟩
  rcases h with h | ⟨b, off, rfl, hlt, hc⟩
  · exact Or.inl h
  · refine Or.inr ⟨b, off, rfl, Nat.lt_of_lt_of_le hlt hb.size, fun j hj => ?_⟩
    obtain ⟨x, n, hx, q, hn⟩ := hc j hj
    exact ⟨x, n, (hb.cell (by exact hlt)).trans hx, q.below hb, hn⟩

/-- block B: a row of len slices, the first k of them of strings in newer rows -/
structure HalfL (w wr : World) (B len k L : Nat) : Prop where
  row : ∃ f, wr.rowIs B 22 len f ∧ ∀ j, j < k → ∃ n, SlNew IsStr (B + 1) wr (f j) n ∧ n ≤ L
  below : Below B w wr

theorem HalfL.start (w : World) (len L : Nat) : HalfL w (w.alloc (.cells (madeCells #[.slice none 0 0] len) 22)) w.heap.size len 0 L :=
  ⟨⟨_, World.rowIs_made w _ len 22, fun j hj => absurd hj (Nat.not_lt_zero _)⟩, (Below.refl _ _).alloc (Nat.le_refl _) _⟩

theorem HalfL.lt {w wr : World} {B len k L : Nat} (h : HalfL w wr B len k L) : B < wr.heap.size := by
  obtain ⟨⟨f, hr, _⟩, _⟩ := h
  exact hr.lt

theorem HalfL.move {w wr w' : World} {B len k L : Nat} (h : HalfL w wr B len k L) (hb : Below wr.heap.size wr w') : HalfL w w' B len k L := by
  have hlt := h.lt
  obtain ⟨⟨f, hr, hf⟩, hw⟩ := h
  refine ⟨⟨f, hr.of_block (hb.block B hlt), fun j hj => ?_⟩, hw.trans (hb.mono (Nat.le_of_lt hlt))⟩
  obtain ⟨n, hn, hl⟩ := hf j hj
  exact ⟨n, hn.below hb, hl⟩

theorem HalfL.set {w wr : World} {B len k L n : Nat} (h : HalfL w wr B len k L) {x : Value} (hx : SlNew IsStr (B + 1) wr x n) (hn : n ≤ L) : HalfL w (wr.setCell ⟨B, k, none⟩ x) B len (k + 1) L := by
  obtain ⟨⟨f, hr, hf⟩, hb⟩ := h
  refine ⟨⟨_, hr.set k x, fun j hj => ?_⟩, hb.setCell (Nat.le_refl _) _⟩
  by_cases e : j = k
  · simp only [e, if_true]; exact ⟨n, hx.set k x, hn⟩
  · simp only [e, if_false]
    obtain ⟨m, hm, hl⟩ := hf j (by omega)
    exact ⟨m, hm.set k x, hl⟩

theorem HalfL.cell {w wr : World} {B len k L : Nat} (h : HalfL w wr B len k L) (j : Nat) (hj : j < len) : ∃ x, wr.cell? ⟨B, j, none⟩ = some x := by
  obtain ⟨⟨f, hr, _⟩, _⟩ := h
  exact ⟨_, hr.cell hj⟩

theorem HalfL.frozen {w wr : World} {B len k L : Nat} (h : HalfL w wr B len k L) (j : Nat) : wr.frozen? ⟨B, j, none⟩ = false := by
  obtain ⟨⟨f, hr, _⟩, _⟩ := h
  exact hr.frozen j

theorem HalfL.done {w wr : World} {B len L : Nat} (h : HalfL w wr B len len L) : LstAt wr (.slice (some ⟨B, 0, none⟩) len len) len L := by
  obtain ⟨⟨f, hr, hf⟩, _⟩ := h
  refine ⟨_, _, rfl, Or.inr ⟨B, 0, rfl, hr.lt, fun j hj => ?_⟩⟩
  obtain ⟨n, hn, hl⟩ := hf j hj
  exact ⟨f j, n, by rw [Nat.zero_add]; exact hr.cell hj, hn.slAt, hl⟩

def AnsLst (w : World) (len L : Nat) : Ending → World → Prop := fun e w' => ∃ v, e = .returned v ∧ LstAt w' v len L ∧ Below w.heap.size w w'

set_option maxRecDepth 100000 in
set_option maxHeartbeats 1000000 in
theorem cloneLists_any (v : Value) (len L : Nat) (w : World) (h : LstAt w v len L) (hlen : 24 * len ≤ 281474976710656) (hL : 16 * L ≤ 281474976710656) : Calls Tryd.prog 22 #[v] w (AnsLst w len L) := by
  obtain ⟨a, cap, rfl, h⟩ := h
  have h63 : len ≤ 9223372036854775807 := by omega
  have hmk := run_make_row' (P := Tryd.prog) 44 22 (.slice none 0 0) 24 Tryd.underlying44 Tryd.info22 rfl .i64 .i64 len hlen h63
  cases a with
  | none =>
    have he : ∀ w : World, (binOp .eql 44 (.slice none len cap) (.slice none 0 0)).run Tryd.prog w = .ok (.bool true) w := fun w => Lib.run_eql_slice_nil w _ _ _ _ _ _ _ Tryd.underlying44
    go_enter Tryd.func22, Tryd.ntmps22
    go_wp2
    go_ret
    rcases h with h0 | ⟨b, off, ha, _⟩
    · subst h0; exact ⟨_, rfl, ⟨_, _, rfl, Or.inl rfl⟩, Below.refl _ _⟩
    · cases ha
  | some a =>
    have he : ∀ w : World, (binOp .eql 44 (.slice (some a) len cap) (.slice none 0 0)).run Tryd.prog w = .ok (.bool false) w := fun w => Lib.run_eql_slice_nil w _ _ _ _ _ _ _ Tryd.underlying44
    go_enter Tryd.func22, Tryd.ntmps22
    go_wp2
    have hH : HalfL w (w.alloc (.cells (madeCells #[.slice none 0 0] len) 22)) w.heap.size len 0 L := HalfL.start w _ _
    generalize w.alloc (.cells (madeCells #[.slice none 0 0] len) 22) = w1 at *
    have HC : Hid (len = 0 ∨ ∃ b off, some a = some (⟨b, off, none⟩ : Addr) ∧ b < w.heap.size ∧ ∀ j, j < len → ∃ x n, w.cell? ⟨b, off + j, none⟩ = some x ∧ SlAt IsStr w x n ∧ n ≤ L) := h
    clear h hmk
    generalize hB : w.heap.size = B at *
    go_loopw [4] (fun i wr => ∃ k : Nat, k ≤ len ∧ i = .int .i64 k ∧ HalfL w wr B len k L) (fun i _ => len - (intOf i).toNat)
    case atStart => exact ⟨0, Nat.zero_le _, rfl, hH⟩
    case round =>
      obtain ⟨k, hk, rfl, hr⟩ := hrel
      by_cases hkl : k < len
      · rcases HC.out with h0 | ⟨b, off, ha, hlt, hc⟩
        · exact absurd hkl (by omega)
        · cases ha
          obtain ⟨x, n, hx0, hS0, hnL⟩ := hc k hkl
          have hx : wr.cell? ⟨b, off + k, none⟩ = some x := (hr.below.cell (by exact hlt)).trans hx0
          have hS : SlAt IsStr wr x n := hS0.below (by rw [hB]; exact hr.below)
          have HS : Hid (SlAt IsStr wr x n) := hS
          have HR : Hid (HalfL w wr B len k L) := hr
          obtain ⟨xa, xc, rfl, -⟩ := hS
          clear hx0 hc HC hS0 hr hH
          go_wp2_with fail
          refine Calls.mono (cloneStrings_new _ n _ HS.out (by omega)) ?_
          rintro e w2 ⟨u, rfl, hu, q⟩
          have hr2 := HR.out.move q
          have hu2 : SlNew IsStr (B + 1) w2 u n := hu.mono HR.out.lt
          obtain ⟨y, hy⟩ := hr2.cell k hkl
          have hfz := hr2.frozen k
          have R := hr2.set hu2 hnL
          obtain ⟨ua, uc, rfl, -⟩ := hu
          clear hr2 hu2 HR HS q hx
          go_wp2
          go_roundw
          case rel => exact ⟨k + 1, by omega, by go_num, R⟩
          case measure => simp [intOf]; omega
      · have : k = len := by omega
        subst this
        clear HC
        go_wp2
        go_ret
        exact ⟨_, rfl, hr.done, by rw [hB]; exact hr.below⟩
end Go.Proofs.Qxb6603875aDoor
