/-
  For statement 5: the books of the law's main loop.
-/
import Derived.Test.Qxb6603875aDoorG16
import Derived.Test.Qxb6603875aDoorG3
namespace Go.Proofs.Qxb6603875aDoor
open Go.RowKit Go.Maps Go.WideMaps
set_option linter.unusedVariables false

def AnsLaw (w : World) : Ending → World → Prop := fun e w' => e = .returned (.bool true) ∧ Below w.heap.size w w'

theorem SlAt.grown {Q : Value → Prop} {w w' : World} {v : Value} {n B m : Nat} {D : DataW Unit} (h : SlAt Q w v n) (hM : MapAt w B m D) (hg : w.grownBy w' (some B)) : SlAt Q w' v n := by
  obtain ⟨a, cap, rfl, h⟩ := h
  refine ⟨a, cap, rfl, ?_⟩
  rcases h with h | ⟨b, off, rfl, hlt, hc⟩
  · exact Or.inl h
  · refine Or.inr ⟨b, off, rfl, Nat.lt_of_lt_of_le hlt hg.size, fun j hj => ?_⟩
    obtain ⟨x, hx, q⟩ := hc j hj
    have hne : b ≠ B := map_ne_cell hM hx
    exact ⟨x, (World.cell?_of_block (w := w) (hg.block b hlt (fun e => hne (Option.some.inj e)))).trans hx, q⟩

theorem LstAt.grown {w w' : World} {v : Value} {n L B m : Nat} {D : DataW Unit} (h : LstAt w v n L) (hM : MapAt w B m D) (hg : w.grownBy w' (some B)) : LstAt w' v n L := by
  obtain ⟨a, cap, rfl, h⟩ := h
  refine ⟨a, cap, rfl, ?_⟩
  rcases h with h | ⟨b, off, rfl, hlt, hc⟩
  · exact Or.inl h
  · refine Or.inr ⟨b, off, rfl, Nat.lt_of_lt_of_le hlt hg.size, fun j hj => ?_⟩
    obtain ⟨x, l, hx, q, hl⟩ := hc j hj
    have hne : b ≠ B := map_ne_cell hM hx
    exact ⟨x, l, (World.cell?_of_block (w := w) (hg.block b hlt (fun e => hne (Option.some.inj e)))).trans hx, q.grown hM hg, hl⟩

theorem MapAt.grown {w w' : World} {B B' n : Nat} {D : DataW Unit} (h : MapAt w B n D) (hne : B ≠ B') (hg : w.grownBy w' (some B')) : MapAt w' B n D := by
  have hlt := World.ownsMap.lt h
  obtain ⟨es, clock, hbk, F, hs, hD⟩ := h
  exact ⟨es, clock, (hg.block B hlt (fun e => hne (Option.some.inj e))).trans hbk, F, hs, hD⟩

/-- behind i rounds: c comparisons, k contains atoms, h times the probe -/
structure Inv (w wr : World) (vk vl : Value) (n0 len Bt Bw i : Nat) (p : ByteArray) (c k h : Nat) : Prop where
  texts : ∃ nt Dt, MapAt wr Bt nt Dt ∧ Holds Dt (c : Int) ∧ nt ≤ i
  words : ∃ nw Dw, MapAt wr Bw nw Dw ∧ HoldsAt Dw p (h : Int) ∧ nw ≤ i * 1048576
  kinds : SlAt IsByte wr vk n0
  lists : LstAt wr vl len 1048576
  below : Below w.heap.size w wr
  ne : Bt ≠ Bw
  leT : w.heap.size ≤ Bt
  leW : w.heap.size ≤ Bw
  ck : c + k ≤ i
  hh : h ≤ k * 1048576

theorem Inv.like {w wr w' : World} {vk vl : Value} {n0 len Bt Bw i c k h : Nat} {p : ByteArray} (I : Inv w wr vk vl n0 len Bt Bw i p c k h) (hb : Below wr.heap.size wr w') : Inv w w' vk vl n0 len Bt Bw (i + 1) p c k h := by
  obtain ⟨nt, Dt, t1, t2, t3⟩ := I.texts
  obtain ⟨nw, Dw, u1, u2, u3⟩ := I.words
  exact ⟨⟨nt, Dt, t1.below hb, t2, by omega⟩, ⟨nw, Dw, u1.below hb, u2, Nat.le_trans u3 (Nat.mul_le_mul_right _ (Nat.le_succ i))⟩, I.kinds.below hb, I.lists.below hb, I.below.trans (hb.mono I.below.size), I.ne, I.leT, I.leW, by have := I.ck; omega, I.hh⟩

theorem Inv.other {w wr w' : World} {vk vl : Value} {n0 len Bt Bw i c k h nt : Nat} {p : ByteArray} {Dt : DataW Unit} (I : Inv w wr vk vl n0 len Bt Bw i p c k h) (t1 : MapAt wr Bt nt Dt) (t3 : nt ≤ i)
    (hm : ∃ D', MapAt w' Bt (nt + 1) D' ∧ Holds D' ((c : Int) + 1)) (hg : wr.grownBy w' (some Bt)) : Inv w w' vk vl n0 len Bt Bw (i + 1) p (c + 1) k h := by
  obtain ⟨nw, Dw, u1, u2, u3⟩ := I.words
  obtain ⟨D', m1, m2⟩ := hm
  exact ⟨⟨nt + 1, D', m1, by simpa using m2, by omega⟩, ⟨nw, Dw, u1.grown I.ne.symm hg, u2, Nat.le_trans u3 (Nat.mul_le_mul_right _ (Nat.le_succ i))⟩, I.kinds.grown t1 hg, I.lists.grown t1 hg, I.below.grown hg I.below.size (fun j hj => by cases hj; exact I.leT), I.ne, I.leT, I.leW, by have := I.ck; omega, I.hh⟩

theorem Inv.contains {w wr w' : World} {vk vl : Value} {n0 len Bt Bw i c k h nw l q : Nat} {p : ByteArray} {Dw : DataW Unit} (I : Inv w wr vk vl n0 len Bt Bw i p c k h) (u1 : MapAt wr Bw nw Dw) (u3 : nw ≤ i * 1048576) (hl : l ≤ 1048576) (hq : q ≤ l)
    (hm : ∃ D', MapAt w' Bw (nw + l) D' ∧ HoldsAt D' p ((h : Int) + (q : Int))) (hg : wr.grownBy w' (some Bw)) : Inv w w' vk vl n0 len Bt Bw (i + 1) p c (k + 1) (h + q) := by
  obtain ⟨nt, Dt, t1, t2, t3⟩ := I.texts
  obtain ⟨D', m1, m2⟩ := hm
  exact ⟨⟨nt, Dt, t1.grown I.ne hg, t2, by omega⟩, ⟨nw + l, D', m1, by simpa using m2, by omega⟩, I.kinds.grown u1 hg, I.lists.grown u1 hg, I.below.grown hg I.below.size (fun j hj => by cases hj; exact I.leW), I.ne, I.leT, I.leW, by have := I.ck; omega, by have := I.hh; omega⟩
end Go.Proofs.Qxb6603875aDoor
