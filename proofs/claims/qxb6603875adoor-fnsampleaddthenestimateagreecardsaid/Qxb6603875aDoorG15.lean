/-
  For statement 5: ZZSampleEstimate, over any contract of estimate at the two new blocks.
-/
import Derived.Test.Qxb6603875aDoorG14
namespace Go.Proofs.Qxb6603875aDoor
open Go.RowKit Go.Maps Go.WideMaps
set_option linter.unusedVariables false

/-- the call answers a float that is Q, and nothing old has turned -/
def AnsF (Q : Nat → Prop) (w : World) : Ending → World → Prop := fun e w' => ∃ b, e = .returned (.float .f64 b) ∧ Q b ∧ Below w.heap.size w w'

set_option maxRecDepth 100000 in
set_option maxHeartbeats 1000000 in
theorem zzestimate_gen (Q : Nat → Prop) (na : Option Addr) (nl nc B : Nat) (cmp : Int) (Bw : Nat) (con kind op : Int) (a : Option Addr) (l c : Nat) (w : World)
    (hest : ∀ w1, w1 = (w.alloc (sampleObj (.slice na nl nc) B cmp Bw con)).alloc (atomObj kind op a l c) → Calls Tryd.prog 29 #[.pointer (some ⟨w.heap.size, 0, none⟩), .pointer (some ⟨w.heap.size + 1, 0, none⟩)] w1 (AnsF Q w1)) :
    Calls Tryd.prog 23 #[.slice na nl nc, .map (some B), .int .i64 cmp, .map (some Bw), .int .i64 con, .int .u8 kind, .int .u8 op, .slice a l c] w (AnsF Q w) := by
  have HE : Hid _ := hest
  have HB : Hid (Below w.heap.size w ((w.alloc (sampleObj (.slice na nl nc) B cmp Bw con)).alloc (atomObj kind op a l c))) := two_below _ _ _
  clear hest
  go_enter Tryd.func23, Tryd.ntmps23
  go_wp2_with fail
  refine (atom_any kind op a l c _).mono ?_
  rintro e w2 ⟨rfl, hw2⟩
  have hw2' : Hid (w2 = (w.alloc (sampleObj (.slice na nl nc) B cmp Bw con)).alloc (atomObj kind op a l c)) := hw2
  clear hw2
  go_wp2_with fail
  refine Calls.mono (HE.out w2 hw2'.out) ?_
  rintro e w3 ⟨b, rfl, hq, hb3⟩
  have HB2 : Hid (Below w.heap.size w w2) := by rw [hw2'.out]; exact HB.out
  have HQ : Hid (Q b) := hq
  clear hq
  go_wp2
  go_ret
  exact ⟨b, rfl, HQ.out, HB2.out.trans (hb3.mono HB2.out.size)⟩
end Go.Proofs.Qxb6603875aDoor
