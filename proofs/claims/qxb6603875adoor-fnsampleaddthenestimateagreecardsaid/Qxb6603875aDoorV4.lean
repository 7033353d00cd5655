/-
  zzb1Counts.
-/
import Derived.Test.Qxb6603875aDoorV2
namespace Go.Proofs.Qxb6603875aDoor
open Go.RowKit Go.Maps Go.WideMaps
set_option linter.unusedVariables false

theorem law : Keyed Tryd.prog 9 := string_keyed Tryd.underlying9

/-- block B is a map[string]int of at most n entries -/
def MapAt (w : World) (B n : Nat) (D : DataW Unit) : Prop := w.ownsMap Tryd.prog 9 (plainElem Tryd.prog 3) B n D
/-- the call answers a map of its own, and nothing old has turned -/
def AnsM (w : World) (n : Nat) : Ending → World → Prop := fun e w' => ∃ D, e = .returned (.map (some w.heap.size)) ∧ MapAt w' w.heap.size n D ∧ Below w.heap.size w w'

set_option maxRecDepth 100000 in
set_option maxHeartbeats 1000000 in
theorem counts_any (v1 v2 : Value) (n1 n2 : Nat) (w : World) (h1 : SlAt IsStr w v1 n1) (h2 : SlAt IsInt w v2 n2) (b1 : n1 ≤ 1048576) (b2 : n2 ≤ 281474976710656) :
    Calls Tryd.prog 17 #[v1, v2] w (AnsM w n1) := by
  obtain ⟨a1, cap1, rfl, h1⟩ := h1
  obtain ⟨a2, cap2, rfl, h2⟩ := h2
  have H1 : Hid _ := h1
  have H2 : Hid _ := h2
  clear h1 h2
  have hmm := @run_makeMap Tryd.prog
  go_enter Tryd.func17, Tryd.ntmps17
  go_wp2
  go_loopw [6, 7] (fun i _ wr => ∃ (k : Nat) (D : DataW Unit), k ≤ n1 ∧ i = .int .i64 k ∧ wr.ownsMap Tryd.prog 9 (plainElem Tryd.prog 3) w.heap.size k D ∧ Below w.heap.size w wr) (fun i _ _ => n1 - (intOf i).toNat)
  case atStart => exact ⟨0, .map [], Nat.zero_le _, rfl, World.ownsMap_made _ _ _ _, (Below.refl _ _).alloc (Nat.le_refl _) _⟩
  case round =>
    obtain ⟨k, D, hk, rfl, hown, hnx⟩ := hrel
    by_cases hkl : k < n1
    · rcases H1.out with e | ⟨b, off, rfl, hlt, hc⟩
      · exact absurd hkl (by omega)
      · obtain ⟨x, hx0, s, rfl, hs⟩ := hc k hkl
        have hx : wr.cell? ⟨b, off + k, none⟩ = some (.string s) := (hnx.cell (by exact hlt)).trans hx0
        have hkey : keyOf Tryd.prog 9 (.string s) = some (.string s.data.toList) := keyOf_string_mk Tryd.underlying9 hs
        clear hx0 hc
        by_cases hkc : k < n2
        · rcases H2.out with e | ⟨b', off', rfl, hlt', hc'⟩
          · exact absurd hkc (by omega)
          · obtain ⟨y, hy0, z, rfl, hz1, hz2⟩ := hc' k hkc
            have hy : wr.cell? ⟨b', off' + k, none⟩ = some (.int .i64 z) := (hnx.cell (by exact hlt')).trans hy0
            clear hy0 hc' H1 H2
            go_wp2_with (first
              | (at_mapUpdate; refine wpList_mapUpdate_own _ rfl _ _ _ 35 rfl 9 3 law Tryd.underlying35 _ w.heap.size k _ rfl hown (by unfold maxLen; omega) _ _ _ rfl rfl hkey _ [] (plainElem_int Tryd.underlying3 (WalkArith.wf_i64 ⟨hz1, hz2⟩)) ?_)
              | go_in)
            intro w1 hown1 hgrow1
            have R2 := hnx.grown hgrow1 hnx.size (fun j hj => by cases hj; exact Nat.le_refl _)
            clear hgrow1 hown hx hy
            go_wp2
            go_roundw
            case rel => exact ⟨k + 1, _, by omega, by go_num, hown1, R2⟩
            case measure => simp [intOf]; omega
        · clear H1 H2
          go_wp2_with (first
            | (at_mapUpdate; refine wpList_mapUpdate_own _ rfl _ _ _ 35 rfl 9 3 law Tryd.underlying35 _ w.heap.size k _ rfl hown (by unfold maxLen; omega) _ _ _ rfl rfl hkey _ [] (plainElem_int Tryd.underlying3 (WalkArith.wf_i64 ⟨by omega, by omega⟩)) ?_)
            | go_in)
          intro w1 hown1 hgrow1
          have R2 := hnx.grown hgrow1 hnx.size (fun j hj => by cases hj; exact Nat.le_refl _)
          clear hgrow1 hown hx
          go_wp2
          go_roundw
          case rel => exact ⟨k + 1, _, by omega, by go_num, hown1, R2⟩
          case measure => simp [intOf]; omega
    · have : k = n1 := by omega
      subst this
      clear H1 H2
      go_wp2
      go_ret
      exact ⟨D, rfl, hown, hnx⟩
end Go.Proofs.Qxb6603875aDoor
