/-
  For statement 5: (*sample).add at a contains atom.
-/
import Derived.Test.Qxb6603875aDoorG6
namespace Go.Proofs.Qxb6603875aDoor
open Go.RowKit Go.Maps Go.WideMaps
set_option linter.unusedVariables false

/-- how often p stands among the first k of ss -/
def cnt (p : ByteArray) (ss : List ByteArray) : Nat → Nat
  | 0 => 0
  | k + 1 => cnt p ss k + (if ss.getD k ByteArray.empty = p then 1 else 0)

theorem cnt_le (p : ByteArray) (ss : List ByteArray) : ∀ k, cnt p ss k ≤ k
  | 0 => Nat.le_refl _
  | k + 1 => by
    have := cnt_le p ss k
    unfold cnt
    split <;> omega

/-- but for the blocks B and S the world w' is as w was -/
structure Fr (B S : Nat) (w w' : World) : Prop where
  os : w'.os = w.os
  tape : w'.tape = w.tape
  output : w'.output = w.output
  size : w.heap.size ≤ w'.heap.size
  block : ∀ k, k < w.heap.size → k ≠ B → k ≠ S → w'.heap[k]? = w.heap[k]?

theorem Fr.grown {B S : Nat} {w w1 w2 : World} (h : Fr B S w w1) (hg : w1.grownBy w2 (some B)) : Fr B S w w2 :=
  ⟨hg.os.trans h.os, hg.tape.trans h.tape, hg.output.trans h.output, Nat.le_trans h.size hg.size, fun k hk h1 h2 => (hg.block k (Nat.lt_of_lt_of_le hk h.size) (fun e => h1 (Option.some.inj e))).trans (h.block k hk h1 h2)⟩

theorem Fr.set (B S o : Nat) (w : World) (u : Value) : Fr B S w (w.setCell ⟨S, o, none⟩ u) :=
  ⟨rfl, rfl, rfl, by simp [World.setCell], fun k _ _ h2 => Below.heap_setCell _ _ _ _ (by exact h2)⟩

/-- add's loop: the map in block B, the sample in block S -/
structure Adds (w wr : World) (B S n k : Nat) (o : Obj) (p : ByteArray) (h : Int) : Prop where
  map : ∃ D, MapAt wr B (n + k) D ∧ HoldsAt D p h
  samp : wr.heap[S]? = some o
  fr : Fr B S w wr

def AnsAdd (w : World) (B S n : Nat) (o : Obj) (p : ByteArray) (h : Int) : Ending → World → Prop := fun e w' => e = .returned undef ∧ Adds w w' B S n 0 o p h


theorem wrap64_small {z : Int} (h1 : -9223372036854775808 ≤ z) (h2 : z ≤ 9223372036854775807) : wrap64 z = z := by unfold wrap64; omega

theorem map_ne_cell {w : World} {B n b o : Nat} {D : DataW Unit} {v : Value} (h : MapAt w B n D) (hc : w.cell? ⟨b, o, none⟩ = some v) : b ≠ B := by
  intro e
  subst e
  obtain ⟨es, clock, hb, _⟩ := h
  unfold World.cell? at hc
  rw [hb] at hc
  cases hc

/-- one round of add's loop -/
theorem Adds.step {w wr w1 : World} {B S n k : Nat} {o : Obj} {p s : ByteArray} {h c : Int} {D : DataW Unit} (hM : MapAt wr B (n + k) D) (hH : HoldsAt D p h) (hc : HoldsAt D s c) (hS : wr.heap[S]? = some o) (hf : Fr B S w wr) (hSB : S ≠ B) (hSl : S < wr.heap.size)
    (hown : MapAt w1 B (n + k + 1) (D.put (keyS s) (.lit (.int .i64 (wrap64 (c + 1)))))) (hg : wr.grownBy w1 (some B)) (h0 : 0 ≤ h) (h1 : h ≤ 1000000000000) :
    Adds w w1 B S n (k + 1) o p (h + ((if s = p then 1 else 0 : Nat) : Int)) := by
  refine ⟨⟨_, hown, ?_⟩, (hg.block S hSl (fun e => hSB (Option.some.inj e))).trans hS, hf.grown hg⟩
  by_cases e : s = p
  · subst e
    rw [if_pos rfl]
    obtain rfl := holdsAt_one hH hc
    rw [wrap64_small (by omega) (by omega)]
    exact holdsAt_put_same hM s _
  · rw [if_neg e]
    have := holdsAt_put_other (u := wrap64 (c + 1)) (fun h => e h.symm) hH
    simpa using this
end Go.Proofs.Qxb6603875aDoor
