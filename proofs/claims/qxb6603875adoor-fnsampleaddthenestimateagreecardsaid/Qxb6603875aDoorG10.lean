/-
  For statement 5: ZZSampleAdd.
-/
import Derived.Test.Qxb6603875aDoorG9
import Derived.BigQuiet
namespace Go.Proofs.Qxb6603875aDoor
open Go.RowKit Go.Maps Go.WideMaps
set_option linter.unusedVariables false

/-- ZZSampleAdd over any contract of add that leaves the sample 'sampleObj nums Bt cmp' Bw con'' and meets R -/
def AnsZ (nums : Value) (Bt Bw : Nat) (cmp con : Int) (R : World → Prop) : Ending → World → Prop := fun e w' => e = .returned (.tuple #[nums, .map (some Bt), .int .i64 cmp, .map (some Bw), .int .i64 con]) ∧ R w'

set_option maxRecDepth 100000 in
set_option maxHeartbeats 1000000 in
theorem zzadd_any (na : Option Addr) (nl nc Bt Bw : Nat) (cmp cmp' con con' kind : Int) (a : Option Addr) (l c : Nat) (w : World) (R : World → Prop) (hR : ∀ w1 n, R w1 → R (w1.drewN n))
    (hadd : ∀ S A w1, w1 = (w.alloc (sampleObj (.slice na nl nc) Bt cmp Bw con)).alloc (atomObj kind 0 a l c) → S = w.heap.size → A = w.heap.size + 1 →
      Calls Tryd.prog 28 #[.pointer (some ⟨S, 0, none⟩), .pointer (some ⟨A, 0, none⟩)] w1 (fun e w' => e = .returned undef ∧ w'.heap[S]? = some (sampleObj (.slice na nl nc) Bt cmp' Bw con') ∧ R w')) :
    Calls Tryd.prog 18 #[.slice na nl nc, .map (some Bt), .int .i64 cmp, .map (some Bw), .int .i64 con, .int .u8 kind, .slice a l c] w (AnsZ (.slice na nl nc) Bt Bw cmp' con' R) := by
  have HA : Hid _ := hadd
  have HR : Hid _ := hR
  clear hadd hR
  go_enter Tryd.func18, Tryd.ntmps18
  go_wp2_with fail
  refine (atom_any kind 0 a l c _).mono ?_
  rintro e w2 ⟨rfl, hw2⟩
  have hw2' : Hid (w2 = (w.alloc (sampleObj (.slice na nl nc) Bt cmp Bw con)).alloc (atomObj kind 0 a l c)) := hw2
  clear hw2
  go_wp2_with fail
  refine Calls.mono (HA.out _ _ w2 hw2'.out rfl rfl) ?_
  rintro e w3 ⟨rfl, hs, hr⟩
  have k0 : w3.cell? ⟨w.heap.size, 0, none⟩ = some (.slice na nl nc) := obj_cell hs 0
  have k1 : w3.cell? ⟨w.heap.size, 1, none⟩ = some (.map (some Bt)) := obj_cell hs 1
  have k2 : w3.cell? ⟨w.heap.size, 2, none⟩ = some (.int .i64 cmp') := obj_cell hs 2
  have k3 : w3.cell? ⟨w.heap.size, 3, none⟩ = some (.map (some Bw)) := obj_cell hs 3
  have k4 : w3.cell? ⟨w.heap.size, 4, none⟩ = some (.int .i64 con') := obj_cell hs 4
  have Hr : Hid (R w3) := hr
  clear hs hr
  generalize w.heap.size = S at *
  go_wp2
  go_quiet (fail)
  go_wp2
  refine bodyPost_ret (v := .tuple #[.slice na nl nc, .map (some Bt), .int .i64 cmp', .map (some Bw), .int .i64 con']) (by simp [results, Tryd.results18, go_sem]) rfl ⟨rfl, HR.out _ _ Hr.out⟩
end Go.Proofs.Qxb6603875aDoor
