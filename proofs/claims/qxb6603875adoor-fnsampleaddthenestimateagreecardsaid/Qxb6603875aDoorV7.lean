/-
  zzAtom, ZZSampleEstimate.
-/
import Derived.Test.Qxb6603875aDoorV6
namespace Go.Proofs.Qxb6603875aDoor
open Go.RowKit Go.Maps Go.WideMaps
set_option linter.unusedVariables false

/-- an atom's cells -/
def atomObj (kind op : Int) (a : Option Addr) (l c : Nat) : Obj := .cells #[.int .u8 kind, .string ⟨#[]⟩, .int .u8 op, .string ⟨#[]⟩, .float .f64 0, .int .i64 0, .int .i32 0, .int .u8 0, .bool false, .bool false, .bool false, .slice a l c, .slice none 0 0] 72
/-- a sample's cells -/
def sampleObj (nums : Value) (B : Nat) (cmp : Int) (Bw : Nat) (con : Int) : Obj := .cells #[nums, .map (some B), .int .i64 cmp, .map (some Bw), .int .i64 con] 60

def AnsA (kind op : Int) (a : Option Addr) (l c : Nat) (w : World) : Ending → World → Prop := fun e w' => e = .returned (.pointer (some ⟨w.heap.size, 0, none⟩)) ∧ w' = w.alloc (atomObj kind op a l c)

set_option maxRecDepth 100000 in
theorem atom_any (kind op : Int) (a : Option Addr) (l c : Nat) (w : World) : Calls Tryd.prog 26 #[.int .u8 kind, .string ⟨#[]⟩, .int .u8 op, .slice a l c] w (AnsA kind op a l c w) := by
  go_enter Tryd.func26, Tryd.ntmps26
  go_wp2
  go_ret
  exact ⟨rfl, rfl⟩

theorem new_cell (w : World) (cs : Array Value) (t : TypeId) (i : Nat) : (w.alloc (.cells cs t)).cell? ⟨w.heap.size, i, none⟩ = cs[i]? := by
  unfold World.cell?
  rw [Go.Deep.blk_alloc_new]
  rfl

theorem reads_new (w : World) (nums : Value) (B n : Nat) (D : DataW Unit) (cmp : Int) (Bw : Nat) (con kind op : Int) (a : Option Addr) (l c : Nat) (h : MapAt w B n D) :
    Reads ((w.alloc (sampleObj nums B cmp Bw con)).alloc (atomObj kind op a l c)) w.heap.size (w.alloc (sampleObj nums B cmp Bw con)).heap.size B n D cmp kind op := by
  have hS : w.heap.size < (w.alloc (sampleObj nums B cmp Bw con)).heap.size := by rw [Go.Deep.nblk_alloc]; exact Nat.lt_succ_self _
  have hb : Below (w.alloc (sampleObj nums B cmp Bw con)).heap.size (w.alloc (sampleObj nums B cmp Bw con)) ((w.alloc (sampleObj nums B cmp Bw con)).alloc (atomObj kind op a l c)) := (Below.refl _ _).alloc (Nat.le_refl _) _
  refine ⟨?_, ?_, (hb.cell (by exact hS)).trans (new_cell _ _ _ _), (hb.cell (by exact hS)).trans (new_cell _ _ _ _), new_cell _ _ _ _, new_cell _ _ _ _, new_cell _ _ _ _, new_cell _ _ _ _, new_cell _ _ _ _, new_cell _ _ _ _, new_cell _ _ _ _, new_cell _ _ _ _, new_cell _ _ _ _, new_cell _ _ _ _, ?_⟩
  · rw [Go.Deep.nblk_alloc]; omega
  · rw [Go.Deep.nblk_alloc _ (atomObj kind op a l c)]; exact Nat.lt_succ_self _
  · exact (h.below ((Below.refl _ _).alloc (Nat.le_refl _) _)).below hb

set_option maxRecDepth 100000 in
set_option maxHeartbeats 1000000 in
theorem zzestimate_any (v : Value) (na : Option Addr) (nl nc B n : Nat) (D : DataW Unit) (cmp : Int) (Bw : Nat) (con kind op : Int) (a : Option Addr) (l c : Nat) (w : World) (h : MapAt w B n D)
    (hest : ∀ (w : World) (S A : Nat), Reads w S A B n D cmp kind op → Calls Tryd.prog 29 #[.pointer (some ⟨S, 0, none⟩), .pointer (some ⟨A, 0, none⟩)] w (AnsV v w)) :
    Calls Tryd.prog 23 #[.slice na nl nc, .map (some B), .int .i64 cmp, .map (some Bw), .int .i64 con, .int .u8 kind, .int .u8 op, .slice a l c] w (AnsV v w) := by
  have HE : Hid _ := hest
  have HR : Hid _ := reads_new w (.slice na nl nc) B n D cmp Bw con kind op a l c h
  have HB : Hid (Below w.heap.size w ((w.alloc (sampleObj (.slice na nl nc) B cmp Bw con)).alloc (atomObj kind op a l c))) := ((Below.refl _ _).alloc (Nat.le_refl _) _).alloc (by rw [Go.Deep.nblk_alloc]; omega) _
  clear hest h
  go_enter Tryd.func23, Tryd.ntmps23
  go_wp2_with fail
  refine (atom_any kind op a l c _).mono ?_
  rintro e w2 ⟨rfl, hw2⟩
  have hw2' : w2 = (w.alloc (sampleObj (.slice na nl nc) B cmp Bw con)).alloc (atomObj kind op a l c) := hw2
  clear hw2
  rw [← hw2'] at HR HB
  clear hw2'
  go_wp2_with fail
  have hA : (w.alloc (sampleObj (.slice na nl nc) B cmp Bw con)).heap.size = w.heap.size + 1 := Go.Deep.nblk_alloc _ _
  rw [hA] at HR
  refine Calls.mono (HE.out _ _ _ HR.out) ?_
  rintro e w3 ⟨rfl, hb3⟩
  go_wp2
  go_ret
  exact ⟨rfl, HB.out.trans (hb3.mono HB.out.size)⟩
end Go.Proofs.Qxb6603875aDoor
