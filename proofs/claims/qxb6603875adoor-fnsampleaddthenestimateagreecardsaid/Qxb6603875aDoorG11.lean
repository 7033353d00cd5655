/-
  For statement 5: ZZSampleAdd, kind by kind.
-/
import Derived.Test.Qxb6603875aDoorG10
namespace Go.Proofs.Qxb6603875aDoor
open Go.RowKit Go.Maps Go.WideMaps
set_option linter.unusedVariables false

theorem grown_below {w w1 w2 : World} {row : Option Nat} (h : w.grownBy w1 row) (hb : Below w1.heap.size w1 w2) : w.grownBy w2 row :=
  ⟨hb.os.trans h.os, hb.tape.trans h.tape, hb.output.trans h.output, Nat.le_trans h.size hb.size, fun k hk hne => (hb.block k (Nat.lt_of_lt_of_le hk h.size)).trans (h.block k hk hne)⟩

theorem below_drewN' (w : World) (n : Nat) : Below w.heap.size w (w.drewN n) := Go.below_drewN (Below.refl _ _) n

theorem two_below (w : World) (o1 o2 : Obj) : Below w.heap.size w ((w.alloc o1).alloc o2) := ((Below.refl _ _).alloc (Nat.le_refl _) _).alloc (by rw [Deep.nblk_alloc]; omega) _

theorem two_samp (w : World) (o1 o2 : Obj) : ((w.alloc o1).alloc o2).heap[w.heap.size]? = some o1 := by
  rw [Deep.blk_alloc_lt _ _ _ (by rw [Deep.nblk_alloc]; omega), Deep.blk_alloc_new]

theorem two_atom (w : World) (o1 : Obj) (cs : Array Value) (t : TypeId) (i : Nat) : ((w.alloc o1).alloc (.cells cs t)).cell? ⟨w.heap.size + 1, i, none⟩ = cs[i]? := by
  have := new_cell (w.alloc o1) cs t i
  rwa [Deep.nblk_alloc] at this

theorem fr_grown {w w1 w2 : World} {B : Nat} (hb : Below w.heap.size w w1) (hf : Fr B w.heap.size w1 w2) : w.grownBy w2 (some B) :=
  ⟨hf.os.trans hb.os, hf.tape.trans hb.tape, hf.output.trans hb.output, Nat.le_trans hb.size hf.size, fun k hk hne => (hf.block k (Nat.lt_of_lt_of_le hk hb.size) (fun e => hne (by rw [e])) (by omega)).trans (hb.block k hk)⟩

theorem zzadd_contains (na : Option Addr) (nl nc Bt Bw n : Nat) (cmp con h : Int) (D : DataW Unit) (v : Value) (ss : List ByteArray) (p : ByteArray) (w : World)
    (hss : StrsAt w v ss) (hM : MapAt w Bw n D) (hD : HoldsAt D p h) (c0 : 0 ≤ con) (c1 : con ≤ 65536) (g0 : 0 ≤ h) (g1 : h ≤ 100000000000) (hl : ss.length ≤ 1048576) (hn : n ≤ 100000000000) :
    Calls Tryd.prog 18 #[.slice na nl nc, .map (some Bt), .int .i64 cmp, .map (some Bw), .int .i64 con, .int .u8 2, v] w
      (AnsZ (.slice na nl nc) Bt Bw cmp (con + 1) (fun w' => (∃ D', MapAt w' Bw (n + ss.length) D' ∧ HoldsAt D' p (h + (cnt p ss ss.length : Int))) ∧ w.grownBy w' (some Bw))) := by
  have hss' := hss
  obtain ⟨a, cap, rfl, _⟩ := hss'
  refine zzadd_any na nl nc Bt Bw cmp cmp con (con + 1) 2 a ss.length cap w _ (fun w1 m hr => ?_) (fun S A w1 hw hS hA => ?_)
  · obtain ⟨⟨D', m1, m2⟩, m3⟩ := hr
    exact ⟨⟨D', m1.below (below_drewN' _ _), m2⟩, grown_below m3 (below_drewN' _ _)⟩
  · subst hS
    subst hA
    have hb : Below w.heap.size w w1 := by rw [hw]; exact two_below _ _ _
    refine Calls.mono (add_contains _ _ Bt Bw n na nl nc cmp con h D _ ss p w w1 hb (Nat.le_refl _) (by omega) (by rw [hw]; exact two_samp _ _ _) (by rw [hw]; exact two_atom _ _ _ _ _) (by rw [hw]; exact two_atom _ _ _ _ _) hss hM hD c0 c1 g0 g1 hl hn) ?_
    rintro e w2 ⟨rfl, hA⟩
    exact ⟨rfl, hA.samp, hA.map, fr_grown hb hA.fr⟩

theorem zzadd_like (na : Option Addr) (nl nc Bt Bw : Nat) (cmp con : Int) (a : Option Addr) (l c : Nat) (w : World) :
    Calls Tryd.prog 18 #[.slice na nl nc, .map (some Bt), .int .i64 cmp, .map (some Bw), .int .i64 con, .int .u8 3, .slice a l c] w
      (AnsZ (.slice na nl nc) Bt Bw cmp con (fun w' => Below w.heap.size w w')) := by
  refine zzadd_any na nl nc Bt Bw cmp cmp con con 3 a l c w _ (fun w1 m hr => Go.below_drewN hr m) (fun S A w1 hw hS hA => ?_)
  subst hS
  subst hA
  refine Calls.mono (add_like _ _ w1 (by rw [hw]; exact two_atom _ _ _ _ _)) ?_
  rintro e w2 ⟨rfl, rfl⟩
  exact ⟨rfl, by rw [hw]; exact two_samp _ _ _, by rw [hw]; exact two_below _ _ _⟩

theorem zzadd_other (na : Option Addr) (nl nc Bt Bw n : Nat) (cmp con kind t : Int) (D : DataW Unit) (a : Option Addr) (l c : Nat) (w : World) (hk2 : kind ≠ 2) (hk3 : kind ≠ 3)
    (hM : MapAt w Bt n D) (hD : Holds D t) (c0 : 0 ≤ cmp) (c1 : cmp ≤ 65536) (g0 : 0 ≤ t) (g1 : t ≤ 65536) (hn : n ≤ 100000000000) :
    Calls Tryd.prog 18 #[.slice na nl nc, .map (some Bt), .int .i64 cmp, .map (some Bw), .int .i64 con, .int .u8 kind, .slice a l c] w
      (AnsZ (.slice na nl nc) Bt Bw (cmp + 1) con (fun w' => (∃ D', MapAt w' Bt (n + 1) D' ∧ Holds D' (t + 1)) ∧ w.grownBy w' (some Bt))) := by
  refine zzadd_any na nl nc Bt Bw cmp (cmp + 1) con con kind a l c w _ (fun w1 m hr => ?_) (fun S A w1 hw hS hA => ?_)
  · obtain ⟨⟨D', m1, m2⟩, m3⟩ := hr
    exact ⟨⟨D', m1.below (below_drewN' _ _), m2⟩, grown_below m3 (below_drewN' _ _)⟩
  · subst hS
    subst hA
    have hb : Below w.heap.size w w1 := by rw [hw]; exact two_below _ _ _
    have hAl : w.heap.size + 1 < w1.heap.size := by rw [hw, Deep.nblk_alloc, Deep.nblk_alloc]; omega
    refine Calls.mono (add_other _ _ Bt Bw n na nl nc cmp con kind t D w w1 hb (Nat.le_refl _) (by omega) (by omega) hAl (by rw [hw]; exact two_samp _ _ _) (by rw [hw]; exact two_atom _ _ _ _ _) hk2 hk3
      (by rw [hw]; exact ⟨two_atom _ _ _ _ _, two_atom _ _ _ _ _, two_atom _ _ _ _ _, two_atom _ _ _ _ _, two_atom _ _ _ _ _, two_atom _ _ _ _ _, two_atom _ _ _ _ _, two_atom _ _ _ _ _⟩) hM hD c0 c1 g0 g1 hn) ?_
    rintro e w2 ⟨rfl, h1, h2, h3⟩
    exact ⟨rfl, h2, h1, fr_grown hb h3⟩
end Go.Proofs.Qxb6603875aDoor
