/-
  The law's books.
-/
import Derived.Test.Qxb6604153aDoorN7
namespace Go.Proofs.Qxb6604153aDoor
open Go.RowKit Go.Deep Go.Maps Go.WideMaps
set_option linter.unusedVariables false

theorem Tryd.info4 : (Tryd.prog.info? 4).map (fun i => (i.zero, i.size, i.bytes)) = some (some (.bool false), 1, 1) := by kernel_rfl

def AnsLaw (w : World) : Ending → World → Prop := fun e w' => e = .returned (.bool true) ∧ Below w.heap.size w w'

/-- in[j] behind k rounds -/
def insF (rs : List Rec) (low : ByteArray) (k j : Nat) : Bool := decide (j < k) && decide ((recAt rs j).s = low)
/-- cand[j] behind k rounds -/
def candF (rs : List Rec) (low : ByteArray) (k j : Nat) : ByteArray := if insF rs low k j = true then nameOf (recAt rs j) else ⟨#[]⟩

/-- the first loop behind k rounds -/
structure L1 (w6 wr : World) (Bc Bi n k : Nat) (rs : List Rec) (low : ByteArray) : Prop where
  cand : wr.rowIs Bc 9 n (fun j => .string (candF rs low k j))
  ins : wr.rowIs Bi 4 n (fun j => .bool (insF rs low k j))
  below : Below w6.heap.size w6 wr

theorem insF_step {rs : List Rec} {low : ByteArray} {k j : Nat} (h : j ≠ k) : insF rs low (k + 1) j = insF rs low k j := by
  unfold insF
  have : (decide (j < k + 1)) = decide (j < k) := by
    by_cases e : j < k
    · rw [decide_eq_true e, decide_eq_true (by omega)]
    · rw [decide_eq_false e, decide_eq_false (by omega)]
  rw [this]
theorem insF_here {rs : List Rec} {low : ByteArray} {k : Nat} (h : (recAt rs k).s = low) : insF rs low (k + 1) k = true := by
  unfold insF
  rw [decide_eq_true (by omega), decide_eq_true h]; rfl
theorem insF_out {rs : List Rec} {low : ByteArray} {k : Nat} (h : (recAt rs k).s ≠ low) (j : Nat) : insF rs low (k + 1) j = insF rs low k j := by
  by_cases e : j = k
  · subst e
    unfold insF
    rw [decide_eq_false h]; simp
  · exact insF_step e
theorem candF_step {rs : List Rec} {low : ByteArray} {k j : Nat} (h : j ≠ k) : candF rs low (k + 1) j = candF rs low k j := by
  unfold candF
  rw [insF_step h]
theorem candF_here {rs : List Rec} {low : ByteArray} {k : Nat} (h : (recAt rs k).s = low) : candF rs low (k + 1) k = nameOf (recAt rs k) := by
  unfold candF
  rw [insF_here h]; rfl
theorem candF_out {rs : List Rec} {low : ByteArray} {k : Nat} (h : (recAt rs k).s ≠ low) (j : Nat) : candF rs low (k + 1) j = candF rs low k j := by
  unfold candF
  rw [insF_out h]

theorem insF_n {rs : List Rec} {low : ByteArray} {n j : Nat} (h : j < n) : insF rs low n j = decide ((recAt rs j).s = low) := by
  unfold insF
  rw [decide_eq_true h]; rfl
theorem candF_n {rs : List Rec} {low : ByteArray} {n j : Nat} (h : j < n) (hs : (recAt rs j).s = low) : candF rs low n j = nameOf (recAt rs j) := by
  unfold candF
  rw [insF_n h, decide_eq_true hs]; rfl

theorem L1.start (w6 : World) (n : Nat) (rs : List Rec) (low : ByteArray) : L1 w6 ((w6.alloc (.cells (madeCells #[.string ⟨#[]⟩] n) 9)).alloc (.cells (madeCells #[.bool false] n) 4)) w6.heap.size (w6.heap.size + 1) n 0 rs low := by
  have e : (w6.alloc (.cells (madeCells #[.string ⟨#[]⟩] n) 9)).heap.size = w6.heap.size + 1 := nblk_alloc _ _
  refine ⟨((World.rowIs_made w6 (.string ⟨#[]⟩) n 9).alloc _).congr fun j _ => ?_, ?_, ((Below.refl _ _).alloc (Nat.le_refl _) _).alloc (by rw [e]; omega) _⟩
  · rfl
  · have := World.rowIs_made (w6.alloc (.cells (madeCells #[.string ⟨#[]⟩] n) 9)) (.bool false) n 4
    rw [e] at this
    exact this.congr fun j _ => rfl

theorem L1.out {w6 wr : World} {Bc Bi n k : Nat} {rs : List Rec} {low : ByteArray} (h : L1 w6 wr Bc Bi n k rs low) (hs : (recAt rs k).s ≠ low) : L1 w6 wr Bc Bi n (k + 1) rs low :=
  ⟨h.cand.congr fun j _ => by rw [candF_out hs], h.ins.congr fun j _ => by rw [insF_out hs], h.below⟩

theorem rowIs_below {w w' : World} {b t n : Nat} {f : Nat → Value} (h : w.rowIs b t n f) (hb : Below w.heap.size w w') : w'.rowIs b t n f := h.of_block (hb.block b h.lt)

theorem L1.into {w6 wr w' : World} {Bc Bi n k : Nat} {rs : List Rec} {low : ByteArray} (h : L1 w6 wr Bc Bi n k rs low) (hs : (recAt rs k).s = low) (hc : w6.heap.size ≤ Bc) (hi : w6.heap.size ≤ Bi) (hne : Bc ≠ Bi)
    (hb : Below (wr.setCell ⟨Bi, k, none⟩ (.bool true)).heap.size (wr.setCell ⟨Bi, k, none⟩ (.bool true)) w') : L1 w6 (w'.setCell ⟨Bc, k, none⟩ (.string (nameOf (recAt rs k)))) Bc Bi n (k + 1) rs low := by
  have i1 := h.ins.set k (.bool true)
  have c1 := h.cand.setOther (a := ⟨Bi, k, none⟩) hne (.bool true)
  have b1 := h.below.setCell (p := ⟨Bi, k, none⟩) hi (.bool true)
  refine ⟨((rowIs_below c1 hb).set k _).congr fun j _ => ?_, ((rowIs_below i1 hb).setOther (a := ⟨Bc, k, none⟩) (fun e => hne e.symm) _).congr fun j _ => ?_, (b1.trans (hb.mono b1.size)).setCell (p := ⟨Bc, k, none⟩) hc _⟩
  · show (if j = k then _ else _) = _
    by_cases e : j = k
    · subst e; rw [if_pos rfl, candF_here hs]
    · rw [if_neg e, candF_step e]
  · show (if j = k then _ else _) = _
    by_cases e : j = k
    · subst e; rw [if_pos rfl, insF_here hs]
    · rw [if_neg e, insF_step e]
end Go.Proofs.Qxb6604153aDoor
