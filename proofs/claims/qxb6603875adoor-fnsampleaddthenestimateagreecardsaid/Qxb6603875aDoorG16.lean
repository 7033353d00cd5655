/-
  For statement 5: the five estimates of the law.
-/
import Derived.Test.Qxb6603875aDoorG15
import Derived.Test.Qxb6603875aDoorG4
namespace Go.Proofs.Qxb6603875aDoor
open Go.RowKit Go.Maps Go.WideMaps
set_option linter.unusedVariables false

/-- a share's word: nought, or a normal one -/
def IsShare (r : Nat) : Prop := r = 0 ∨ (4503599627370496 ≤ r ∧ r ≤ 1200 * 4503599627370496)

theorem share5 (h c : Int) (h0 : 0 ≤ h) (h1 : h ≤ 1000000000000) (c0 : 0 < c) (c1 : c ≤ 65536) :
    ∃ r, floatBits .quo .f64 (floatOfInt .f64 h) (floatOfInt .f64 c) = some r ∧ floatBits .mul .f64 4607182418800017408 r = some r ∧ IsShare r := by
  obtain ⟨c', rfl⟩ := Int.eq_ofNat_of_zero_le (Int.le_of_lt c0)
  obtain ⟨h', rfl⟩ := Int.eq_ofNat_of_zero_le h0
  have rc := fl_range c' (by omega) (by omega)
  by_cases ht : h' = 0
  · subst ht
    refine ⟨0, ?_, mul_one_zero, Or.inl rfl⟩
    show Ieee.double.div (floatOfInt .f64 0) _ = _
    rw [fl_zero]
    exact div_zero _ (by omega) (by omega)
  · have rt := fl_range h' ht (by omega)
    obtain ⟨r, e, p, l⟩ := div_any _ _ rt.1 rt.2 rc.1 rc.2
    exact ⟨r, e, mul_one r p l, Or.inr ⟨p, l⟩⟩

theorem same_share (r : Nat) (h : IsShare r) (w : World) : Calls Tryd.prog 19 #[.float .f64 r, .float .f64 r] w (AnsT w) := by
  rcases h with rfl | ⟨h1, h2⟩
  · exact same_zero w
  · exact same_pos r h1 h2 w

theorem AnsV.ansF {b : Nat} {w : World} {P : Program} {f : FuncId} {args : Array Value} (h : Calls P f args w (AnsV (.float .f64 b) w)) : Calls P f args w (AnsF (fun x => x = b) w) :=
  Calls.mono h fun e w' ⟨he, hb⟩ => ⟨b, he, rfl, hb⟩

section
variable (na : Option Addr) (nl nc Bt nt Bw nw : Nat) (Dt Dw : DataW Unit) (c k : Int) (p : ByteArray) (w : World)

theorem e5_word (h : Int) (r Pb cap : Nat) (hM : MapAt w Bw nw Dw) (hD : HoldsAt Dw p h) (hps : p.size ≤ maxLen) (hp : w.cell? ⟨Pb, 0, none⟩ = some (.string p)) (hPb : Pb < w.heap.size)
    (hr : floatBits .quo .f64 (floatOfInt .f64 h) (floatOfInt .f64 k) = some r) (hm : floatBits .mul .f64 4607182418800017408 r = some r) :
    Calls Tryd.prog 23 #[.slice na nl nc, .map (some Bt), .int .i64 c, .map (some Bw), .int .i64 k, .int .u8 2, .int .u8 0, .slice (some ⟨Pb, 0, none⟩) 1 cap] w (AnsF (fun x => x = r) w) := by
  refine zzestimate_gen _ na nl nc Bt c Bw k 2 0 _ 1 cap w fun w1 hw => AnsV.ansF ?_
  have hb : Below w.heap.size w w1 := by rw [hw]; exact two_below _ _ _
  have hs : w1.heap[w.heap.size]? = some (sampleObj (.slice na nl nc) Bt c Bw k) := by rw [hw]; exact two_samp _ _ _
  exact estimate_word _ _ Bw nw Pb 0 k h p Dw r cap w1 (obj_cell hs 3) (obj_cell hs 4) (by rw [hw]; exact two_atom _ _ _ _ _) (by rw [hw]; exact two_atom _ _ _ _ _) ((hb.cell (by exact hPb)).trans hp) hps (hM.below hb) hD hr hm

theorem e5_word_nan (Pb cap : Nat) (hM : MapAt w Bw nw Dw) (hD : HoldsAt Dw p 0) (hps : p.size ≤ maxLen) (hp : w.cell? ⟨Pb, 0, none⟩ = some (.string p)) (hPb : Pb < w.heap.size) :
    Calls Tryd.prog 23 #[.slice na nl nc, .map (some Bt), .int .i64 c, .map (some Bw), .int .i64 0, .int .u8 2, .int .u8 0, .slice (some ⟨Pb, 0, none⟩) 1 cap] w (AnsF IsNaN w) := by
  refine zzestimate_gen _ na nl nc Bt c Bw 0 2 0 _ 1 cap w fun w1 hw => ?_
  have hb : Below w.heap.size w w1 := by rw [hw]; exact two_below _ _ _
  have hs : w1.heap[w.heap.size]? = some (sampleObj (.slice na nl nc) Bt c Bw 0) := by rw [hw]; exact two_samp _ _ _
  exact estimate_word_nan _ _ Bw nw Pb 0 p Dw cap w1 (obj_cell hs 3) (obj_cell hs 4) (by rw [hw]; exact two_atom _ _ _ _ _) (by rw [hw]; exact two_atom _ _ _ _ _) ((hb.cell (by exact hPb)).trans hp) hps (hM.below hb) hD

theorem reads5 {w1 : World} {kind op : Int} {a : Option Addr} {l cc : Nat} (hw : w1 = (w.alloc (sampleObj (.slice na nl nc) Bt c Bw k)).alloc (atomObj kind op a l cc)) (hM : MapAt w Bt nt Dt) : Reads w1 w.heap.size (w.heap.size + 1) Bt nt Dt c kind op := by
  have := reads_new w (.slice na nl nc) Bt nt Dt c Bw k kind op a l cc hM
  rw [Deep.nblk_alloc] at this
  rw [hw]
  exact this

theorem e5_nan (op : Int) (hop : op = 1 ∨ op = 2) (a : Option Addr) (l cc : Nat) (hM : MapAt w Bt nt Dt) (hD : Holds Dt 0) :
    Calls Tryd.prog 23 #[.slice na nl nc, .map (some Bt), .int .i64 0, .map (some Bw), .int .i64 k, .int .u8 1, .int .u8 op, .slice a l cc] w (AnsF IsNaN w) := by
  refine zzestimate_gen _ na nl nc Bt 0 Bw k 1 op a l cc w fun w1 hw => ?_
  have hR := reads5 na nl nc Bt nt Bw Dt 0 k w hw hM
  rcases hop with rfl | rfl
  · exact estimate_nan1 _ _ Bt nt Dt 1 w1 hR (by decide) (by decide) hD
  · exact estimate_nan2 _ _ Bt nt Dt 1 w1 hR (by decide) (by decide) hD
end
end Go.Proofs.Qxb6603875aDoor
