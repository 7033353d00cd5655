/-
  The variables that came in, opened; the library's tables, as the row lists them.
-/
import Derived.Test.Qxb6604153aDoorN9
import Derived.Test.Qxb6604153aDoorLow
import Derived.ProofKit
import Derived.OpenShut
import Derived.ChangeOld
import Derived.SliceStrings
import Derived.Deep.Slices
import Derived.PinnedBridge
import Derived.Lib.LaidU8
import Derived.LaidMore
namespace Go.Proofs.Qxb6604153aDoor
open Go.ChangeShapes Go.WideShapes Go.ChangeAt Go.RowKit
set_option linter.unusedVariables false

theorem cells9 : Tryd.prog.cellsOf 9 = 1 := by kernel_rfl
theorem cells4 : Tryd.prog.cellsOf 4 = 1 := by kernel_rfl
theorem cells34 : Tryd.prog.cellsOf 34 = 5 := by kernel_rfl

theorem lt_of_cell {w : World} {b o : Nat} {v : Value} (h : w.cell? ⟨b, o, none⟩ = some v) : b < w.heap.size := by
  rcases Nat.lt_or_ge b w.heap.size with hlt | hge
  · exact hlt
  · simp [World.cell?, Array.getElem?_eq_none hge] at h

theorem bool_of_trod {H : Type} {enc : TypeId × Value → H} {W : World} {sp : Nat → Bool} {held : Bool} {fuel : Nat} {c : Value} {x : DataW H × List MemPlace} (h : DataW.trod enc Tryd.prog W 0 sp held fuel 4 [c] = some x) : ∃ b, c = .bool b := by
  cases fuel with
  | zero => simp [DataW.trod] at h
  | succ n =>
    cases c <;> simp [DataW.trod, Tryd.underlying4] at h
    exact ⟨_, rfl⟩

instance : Inhabited Rec := ⟨Rec.none⟩

theorem recs_of_trod {H : Type} {enc : TypeId × Value → H} {W : World} {sp : Nat → Bool} {held : Bool} {fuel : Nat} {ao : Option Addr} {len cap : Nat} {d : DataW H} {p : List MemPlace}
    (hf : DataW.trod enc Tryd.prog W 0 sp held fuel 22 [.slice ao len cap] = some (d, p)) :
    ∃ rs : List Rec, rs.length = len ∧ len ≤ maxLen ∧ RecsAt W (.slice ao len cap) rs ∧ ∀ j, j < rs.length → (recAt rs j).Small maxLen := by
  rcases Deep.open_slice Tryd.underlying22 hf with ⟨hcs, _⟩ | ⟨a, len', cap', m, n, D, Pl, hcs, _, hl, hm, hmm, _, hx⟩
  · simp at hcs
    obtain ⟨rfl, rfl, rfl⟩ := hcs
    exact ⟨[], rfl, Nat.zero_le _, ⟨_, _, rfl, Or.inl rfl⟩, fun j hj => absurd hj (Nat.not_lt_zero _)⟩
  · simp at hcs
    obtain ⟨rfl, rfl, rfl⟩ := hcs
    have hlm : len ≤ m := by rw [hmm]; split <;> omega
    have key : ∀ i, i < len → ∃ r : Rec, (W.cell? (a.add (i * 5)) = some (.string r.s) ∧ W.cell? (a.add (i * 5 + 1)) = some (.string r.u) ∧ W.cell? (a.add (i * 5 + 2)) = some (.string r.k) ∧ W.cell? (a.add (i * 5 + 3)) = some (.string r.v) ∧ W.cell? (a.add (i * 5 + 4)) = some (.bool r.i)) ∧ r.Small maxLen := by
      intro i hi
      obtain ⟨cs', h1, h2⟩ := hx i (by omega)
      rw [cells34] at h1
      obtain ⟨_, hlen, hcell⟩ := World.cells?_some h1
      obtain ⟨xs, n', _, _, _, hxl, hall⟩ := DataW.trod_struct Tryd.underlying34 h2
      have hxl5 : xs.length = 5 := hxl
      match cs', hlen, xs, hxl5 with
      | [c0, c1, c2, c3, c4], _, [x0, x1, x2, x3, x4], _ =>
        have f0 : DataW.trod enc Tryd.prog W 0 sp held n' 9 [c0] = some x0 := by
          have := hall 0 _ rfl
          simpa [cells9] using this
        have f1 : DataW.trod enc Tryd.prog W 0 sp held n' 9 [c1] = some x1 := by
          have := hall 1 _ rfl
          simpa [cells9] using this
        have f2 : DataW.trod enc Tryd.prog W 0 sp held n' 9 [c2] = some x2 := by
          have := hall 2 _ rfl
          simpa [cells9] using this
        have f3 : DataW.trod enc Tryd.prog W 0 sp held n' 9 [c3] = some x3 := by
          have := hall 3 _ rfl
          simpa [cells9] using this
        have f4 : DataW.trod enc Tryd.prog W 0 sp held n' 4 [c4] = some x4 := by
          have := hall 4 _ rfl
          simpa [cells4] using this
        obtain ⟨s0, e0, _, z0⟩ := DataW.trod_string Tryd.underlying9 f0
        obtain ⟨s1, e1, _, z1⟩ := DataW.trod_string Tryd.underlying9 f1
        obtain ⟨s2, e2, _, z2⟩ := DataW.trod_string Tryd.underlying9 f2
        obtain ⟨s3, e3, _, z3⟩ := DataW.trod_string Tryd.underlying9 f3
        obtain ⟨b4, e4⟩ := bool_of_trod f4
        cases e0; cases e1; cases e2; cases e3; cases e4
        refine ⟨⟨s0, s1, s2, s3, b4⟩, ⟨?_, ?_, ?_, ?_, ?_⟩, z0, z1, z2, z3⟩
        · have := hcell 0 (by omega); rwa [Deep.add_add] at this
        · have := hcell 1 (by omega); rwa [Deep.add_add] at this
        · have := hcell 2 (by omega); rwa [Deep.add_add] at this
        · have := hcell 3 (by omega); rwa [Deep.add_add] at this
        · have := hcell 4 (by omega); rwa [Deep.add_add] at this
    obtain ⟨F, hF⟩ := Deep.choose_lt (α := Rec) key
    have hlr : ((List.range len).map F).length = len := by simp
    have hat : ∀ j, j < len → recAt ((List.range len).map F) j = F j := fun j hj => by simp [recAt, List.getD_eq_getElem?_getD, hj]
    refine ⟨(List.range len).map F, hlr, Nat.le_trans hl hm, ?_, fun j hj => by rw [hlr] at hj; rw [hat j hj]; exact (hF j hj).2⟩
    by_cases h0 : len = 0
    · exact ⟨_, _, by rw [hlr], Or.inl (by rw [hlr]; exact h0)⟩
    · obtain ⟨bl, off, spot⟩ := a
      have hspot : spot = none := by simpa [Addr.add] using World.cell?_spot (hF 0 (by omega)).1.1
      subst hspot
      refine ⟨_, _, by rw [hlr], Or.inr ⟨bl, off, rfl, ?_, fun j hj => ?_⟩⟩
      · have := (hF 0 (by omega)).1.1
        rw [add_plain] at this
        exact lt_of_cell this
      · rw [hlr] at hj
        obtain ⟨c0, c1, c2, c3, c4⟩ := (hF j hj).1
        rw [add_plain] at c0 c1 c2 c3 c4
        rw [hat j hj]
        exact ⟨c0, c1, c2, c3, c4⟩

/-! the tables -/
theorem accept_eq : (Rows.laid_unicode_utf8_acceptRanges : DataW Unit) = Lib.acceptData := by kernel_rfl

theorem tabs_of_laid {W : World} (h : laidMetH Tryd.prog Rows.fnConfigNamesModelRow.laid W) : Lib.CaseVar 0 Lib.caseA W ∧ Lib.Utf8Tabs 2 3 W := by
  rw [MakeChecks.laidMetH_plain _ _ _ (by kernel_rfl)] at h
  have h1 := Lib.laidMet.reads h (List.mem_cons_self ..)
  have h2 := Lib.laidMet.reads h (List.mem_cons_of_mem _ (List.mem_cons_self ..))
  have h3 := Lib.laidMet.reads h (List.mem_cons_of_mem _ (List.mem_cons_of_mem _ (List.mem_cons_self ..)))
  rw [accept_eq] at h1
  rw [show Rows.laid_unicode_CaseRanges = Lib.caseData from Pinned.caseRanges_eq] at h2
  rw [show Rows.laid_unicode_utf8_first = Lib.firstData from Pinned.utf8First_eq] at h3
  exact ⟨caseVar_of_reads { Tryd.lays159 with } Tryd.lays159.t206 ⟨by kernel_rfl, by kernel_rfl, by kernel_rfl, by kernel_rfl, by kernel_rfl, by kernel_rfl⟩ h2,
    utf8Tabs_of_reads { Tryd.lays159 with } ⟨by kernel_rfl, by kernel_rfl, by kernel_rfl, by kernel_rfl, by kernel_rfl, by kernel_rfl, by kernel_rfl⟩ h3 h1⟩
end Go.Proofs.Qxb6604153aDoor
