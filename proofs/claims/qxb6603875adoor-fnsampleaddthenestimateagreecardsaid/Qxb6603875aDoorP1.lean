/-
  The arguments, opened.
-/
import Derived.Test.Qxb6603875aDoorV1
import Derived.ProofKit
import Derived.OpenShut
import Derived.ChangeOld
import Derived.SliceStrings
import Derived.Deep.Slices
namespace Go.Proofs.Qxb6603875aDoor
open Go.ChangeShapes Go.WideShapes Go.ChangeAt Go.RowKit
set_option linter.unusedVariables false

theorem cells9 : Tryd.prog.cellsOf 9 = 1 := by kernel_rfl
theorem cells3 : Tryd.prog.cellsOf 3 = 1 := by kernel_rfl
theorem cells40 : Tryd.prog.cellsOf 40 = 1 := by kernel_rfl

section
variable {H : Type} {enc : TypeId × Value → H} {W : World} {sp : Nat → Bool} {held : Bool}

theorem lt_of_cell {w : World} {b o : Nat} {v : Value} (h : w.cell? ⟨b, o, none⟩ = some v) : b < w.heap.size := by
  rcases Nat.lt_or_ge b w.heap.size with hlt | hge
  · exact hlt
  · simp [World.cell?, Array.getElem?_eq_none hge] at h

theorem slAt_of {Q : Value → Prop} {a : Addr} {len cap : Nat} (h : ∀ i, i < len → ∃ x, W.cell? (a.add i) = some x ∧ Q x) : SlAt Q W (.slice (some a) len cap) len := by
  by_cases h0 : len = 0
  · exact ⟨_, _, rfl, Or.inl h0⟩
  · obtain ⟨b, off, spot⟩ := a
    obtain ⟨x, hx, _⟩ := h 0 (by omega)
    have hspot : spot = none := by simpa [Addr.add] using World.cell?_spot hx
    subst hspot
    refine ⟨_, _, rfl, Or.inr ⟨b, off, rfl, ?_, fun j hj => ?_⟩⟩
    · exact lt_of_cell (o := off + 0) (by rw [← add_plain]; exact hx)
    · obtain ⟨y, hy, q⟩ := h j hj
      exact ⟨y, by rw [← add_plain]; exact hy, q⟩

set_option maxRecDepth 100000 in
theorem strs_in {v : Value} {d : DataW H} {p : List MemPlace} {r : Reach} {b0 : Nat} (hv : Value.okWide Tryd.prog W r b0 22 v) (h : DataW.Trod enc Tryd.prog W 0 sp held 22 v d p) : ∃ n, SlAt IsStr W v n ∧ n ≤ 9223372036854775807 := by
  obtain ⟨a0, len, cap, rfl⟩ := okWide_slice Tryd.underlying22 hv
  obtain ⟨fuel, hf⟩ := h
  rcases open_strings Tryd.underlying22 Tryd.underlying9 cells9 hf with ⟨hcs, _⟩ | ⟨a, len', cap', ss, hcs, _, hl, hm, hz, _, hcell, hws⟩
  · simp [Value.cells] at hcs
    obtain ⟨rfl, rfl, rfl⟩ := hcs
    exact ⟨0, ⟨_, _, rfl, Or.inl rfl⟩, by omega⟩
  · simp [Value.cells] at hcs
    obtain ⟨rfl, rfl, rfl⟩ := hcs
    have hlm : len ≤ ss.length := by rw [hz]; split <;> omega
    refine ⟨len, slAt_of fun i hi => ⟨_, hcell i (by omega), _, rfl, ?_⟩, by unfold maxLen at hm; omega⟩
    exact hws _ (by rw [List.getD_eq_getElem?_getD, List.getElem?_eq_getElem (by omega)]; exact List.getElem_mem _)

set_option maxRecDepth 100000 in
theorem ints_in {v : Value} {d : DataW H} {p : List MemPlace} {r : Reach} {b0 : Nat} (hv : Value.okWide Tryd.prog W r b0 31 v) (h : DataW.Trod enc Tryd.prog W 0 sp held 31 v d p) : ∃ n, SlAt IsInt W v n ∧ n ≤ 9223372036854775807 := by
  obtain ⟨a0, len, cap, rfl⟩ := okWide_slice Tryd.underlying31 hv
  obtain ⟨fuel, hf⟩ := h
  rcases open_ints Tryd.underlying31 Tryd.underlying3 cells3 hf with ⟨hcs, _⟩ | ⟨a, len', cap', zs, hcs, _, hl, hm, hz, _, hcell, hws⟩
  · simp [Value.cells] at hcs
    obtain ⟨rfl, rfl, rfl⟩ := hcs
    exact ⟨0, ⟨_, _, rfl, Or.inl rfl⟩, by omega⟩
  · simp [Value.cells] at hcs
    obtain ⟨rfl, rfl, rfl⟩ := hcs
    have hlm : len ≤ zs.length := by rw [hz]; split <;> omega
    refine ⟨len, slAt_of fun i hi => ⟨_, hcell i (by omega), _, rfl, ?_⟩, by unfold maxLen at hm; omega⟩
    have hw := hws (zs.getD i 0) (by rw [List.getD_eq_getElem?_getD, List.getElem?_eq_getElem (by omega)]; exact List.getElem_mem _)
    generalize zs.getD i 0 = z at *
    simp [Lit.wf, IntKind.min, IntKind.max, IntKind.signed, IntKind.bits] at hw
    omega

set_option maxRecDepth 100000 in
theorem flts_in {v : Value} {d : DataW H} {p : List MemPlace} {r : Reach} {b0 : Nat} (hv : Value.okWide Tryd.prog W r b0 30 v) (h : DataW.Trod enc Tryd.prog W 0 sp held 30 v d p) : ∃ n, SlAt IsFlt W v n ∧ n ≤ 9223372036854775807 := by
  obtain ⟨a0, len, cap, rfl⟩ := okWide_slice Tryd.underlying30 hv
  obtain ⟨fuel, hf⟩ := h
  rcases Deep.open_slice1 Tryd.underlying30 cells40 hf with ⟨hcs, _⟩ | ⟨a, len', cap', m, n, V, D, Pl, hcs, _, hl, hm, hz, _, hcell⟩
  · simp [Value.cells] at hcs
    obtain ⟨rfl, rfl, rfl⟩ := hcs
    exact ⟨0, ⟨_, _, rfl, Or.inl rfl⟩, by omega⟩
  · simp [Value.cells] at hcs
    obtain ⟨rfl, rfl, rfl⟩ := hcs
    have hlm : len ≤ m := by rw [hz]; split <;> omega
    refine ⟨len, slAt_of fun i hi => ⟨_, (hcell i (by omega)).1, ?_⟩, by unfold maxLen at hm; omega⟩
    have ht := (hcell i (by omega)).2
    cases n with
    | zero => simp [DataW.trod] at ht
    | succ n =>
      generalize V i = x at ht
      cases x <;> simp [DataW.trod, Tryd.underlying40] at ht
      exact ⟨_, by rw [ht.1.1]⟩
end
end Go.Proofs.Qxb6603875aDoor
