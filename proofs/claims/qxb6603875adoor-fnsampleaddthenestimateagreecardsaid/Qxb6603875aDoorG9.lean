/-
  For statement 5: (*sample).add at a comparison.
-/
import Derived.Test.Qxb6603875aDoorG8
namespace Go.Proofs.Qxb6603875aDoor
open Go.RowKit Go.Maps Go.WideMaps
set_option linter.unusedVariables false

theorem wrap_i64 {z : Int} (h1 : -9223372036854775808 ≤ z) (h2 : z ≤ 9223372036854775807) : IntKind.i64.wrap z = z := by
  simp [IntKind.wrap, IntKind.signed, IntKind.bits]
  omega

theorem set_cmp {w : World} {S Bt Bw : Nat} {nums : Value} {cmp con x : Int} (hS : w.heap[S]? = some (sampleObj nums Bt cmp Bw con)) : (w.setCell ⟨S, 2, none⟩ (.int .i64 x)).heap[S]? = some (sampleObj nums Bt x Bw con) := by
  unfold sampleObj at hS ⊢
  simp [World.setCell, Array.getElem?_modify, hS]

/-- the atom's constant: the zero Value -/
structure Const (w : World) (A : Nat) : Prop where
  c0 : w.cell? ⟨A, 3, none⟩ = some (.string ⟨#[]⟩)
  c1 : w.cell? ⟨A, 4, none⟩ = some (.float .f64 0)
  c2 : w.cell? ⟨A, 5, none⟩ = some (.int .i64 0)
  c3 : w.cell? ⟨A, 6, none⟩ = some (.int .i32 0)
  c4 : w.cell? ⟨A, 7, none⟩ = some (.int .u8 0)
  c5 : w.cell? ⟨A, 8, none⟩ = some (.bool false)
  c6 : w.cell? ⟨A, 9, none⟩ = some (.bool false)
  c7 : w.cell? ⟨A, 10, none⟩ = some (.bool false)

theorem Const.of_block {w w' : World} {A : Nat} (h : Const w A) (e : w'.heap[A]? = w.heap[A]?) : Const w' A :=
  ⟨(World.cell?_of_block (w := w) e).trans h.c0, (World.cell?_of_block (w := w) e).trans h.c1, (World.cell?_of_block (w := w) e).trans h.c2, (World.cell?_of_block (w := w) e).trans h.c3, (World.cell?_of_block (w := w) e).trans h.c4, (World.cell?_of_block (w := w) e).trans h.c5, (World.cell?_of_block (w := w) e).trans h.c6, (World.cell?_of_block (w := w) e).trans h.c7⟩

set_option maxRecDepth 100000 in
set_option maxHeartbeats 1000000 in
theorem add_other (S A Bt Bw n : Nat) (na : Option Addr) (nl nc : Nat) (cmp con kind t : Int) (D : DataW Unit) (w0 w : World)
    (hb0 : Below w0.heap.size w0 w) (hS0 : w0.heap.size ≤ S) (hSA : A ≠ S) (hA0 : w0.heap.size ≤ A) (hAl : A < w.heap.size) (hS : w.heap[S]? = some (sampleObj (.slice na nl nc) Bt cmp Bw con)) (hk : w.cell? ⟨A, 0, none⟩ = some (.int .u8 kind)) (hk2 : kind ≠ 2) (hk3 : kind ≠ 3) (hC : Const w A)
    (hM : MapAt w0 Bt n D) (hD : Holds D t) (c0 : 0 ≤ cmp) (c1 : cmp ≤ 65536) (g0 : 0 ≤ t) (g1 : t ≤ 65536) (hn : n ≤ 100000000000) :
    Calls Tryd.prog 28 #[.pointer (some ⟨S, 0, none⟩), .pointer (some ⟨A, 0, none⟩)] w
      (fun e w' => e = .returned undef ∧ (∃ D', MapAt w' Bt (n + 1) D' ∧ Holds D' (t + 1)) ∧ w'.heap[S]? = some (sampleObj (.slice na nl nc) Bt (cmp + 1) Bw con) ∧ Fr Bt S w w') := by
  have e2 : (kind == 2) = false := beq_eq_false_iff_ne.2 hk2
  have e3 : (kind == 3) = false := beq_eq_false_iff_ne.2 hk3
  have hSl : S < w.heap.size := (Array.getElem?_eq_some_iff.1 hS).1
  have hBl : Bt < w0.heap.size := World.ownsMap.lt hM
  have hSB : S ≠ Bt := by omega
  have k2 : w.cell? ⟨S, 2, none⟩ = some (.int .i64 cmp) := obj_cell hS 2
  have z2 : w.frozen? ⟨S, 2, none⟩ = false := obj_frozen hS 2
  have eA : (w.setCell ⟨S, 2, none⟩ (.int .i64 (cmp + 1))).heap[A]? = w.heap[A]? := Below.heap_setCell _ _ _ _ (by exact hSA)
  have C1 := hC.of_block eA
  have M1 : MapAt (w.setCell ⟨S, 2, none⟩ (.int .i64 (cmp + 1))) Bt n D := by
    obtain ⟨es, clock, hbk, F, hs, hDD⟩ := hM.below hb0
    exact ⟨es, clock, (Below.heap_setCell _ _ _ _ (by exact hSB.symm)).trans hbk, F, hs, hDD⟩
  have S1 := set_cmp (x := cmp + 1) hS
  have F1 : Fr Bt S w (w.setCell ⟨S, 2, none⟩ (.int .i64 (cmp + 1))) := Fr.set _ _ _ _ _
  have z1 : (w.setCell ⟨S, 2, none⟩ (.int .i64 (cmp + 1))).heap.size = w.heap.size := Deep.nblk_setCell _ _ _
  have HM1 : Hid (MapAt (w.setCell ⟨S, 2, none⟩ (.int .i64 (cmp + 1))) Bt n D) := M1
  have HS1 : Hid _ := S1
  have HF1 : Hid _ := F1
  have HZ1 : Hid _ := z1
  have HC1 : Hid _ := C1
  have HD : Hid (Holds D t) := hD
  obtain ⟨x0, x1, x2, x3, x4, x5, x6, x7⟩ := C1
  clear hM hD hC M1 S1 F1 z1 eA hS hk2 hk3
  go_enter Tryd.func28, Tryd.ntmps28
  go_wp2_with (go_at_call 33; go_must (refine (number_zero _).mono ?_); rintro e w2 ⟨rfl, q2⟩)
  generalize w.setCell ⟨S, 2, none⟩ (.int .i64 (cmp + 1)) = w1 at *
  have hw1 : w1.heap.size = w.heap.size := HZ1.out
  have HM2 : Hid (MapAt w2 Bt n D) := HM1.out.below q2
  have HS2 : Hid (w2.heap[S]? = some (sampleObj (.slice na nl nc) Bt (cmp + 1) Bw con)) := (q2.block S (by omega)).trans HS1.out
  have HC2 : Hid (Const w2 A) := HC1.out.of_block (q2.block A (by omega))
  have hsz2 : w.heap.size ≤ w2.heap.size := by have := q2.size; omega
  have HF2 : Hid (Fr Bt S w w2) := ⟨q2.os.trans HF1.out.os, q2.tape.trans HF1.out.tape, q2.output.trans HF1.out.output, hsz2, fun k hk h1 h2 => (q2.block k (by omega)).trans (HF1.out.block k hk h1 h2)⟩
  have HK : Hid (∀ w', w'.heap[S]? = some (sampleObj (.slice na nl nc) Bt (cmp + 1) Bw con) → Const w' A → (fun w' => w'.cell? ⟨S, 1, none⟩ = some (.map (some Bt)) ∧ w'.cell? ⟨A, 3, none⟩ = some (.string ⟨#[]⟩) ∧ w'.cell? ⟨A, 4, none⟩ = some (.float .f64 0) ∧ w'.cell? ⟨A, 5, none⟩ = some (.int .i64 0) ∧ w'.cell? ⟨A, 6, none⟩ = some (.int .i32 0) ∧ w'.cell? ⟨A, 7, none⟩ = some (.int .u8 0) ∧ w'.cell? ⟨A, 8, none⟩ = some (.bool false) ∧ w'.cell? ⟨A, 9, none⟩ = some (.bool false) ∧ w'.cell? ⟨A, 10, none⟩ = some (.bool false)) w') := by
    intro w' hs hc
    exact ⟨obj_cell hs 1, hc.c0, hc.c1, hc.c2, hc.c3, hc.c4, hc.c5, hc.c6, hc.c7⟩
  have hx2 : Hid ((fun w' => w'.cell? ⟨S, 1, none⟩ = some (.map (some Bt)) ∧ w'.cell? ⟨A, 3, none⟩ = some (.string ⟨#[]⟩) ∧ w'.cell? ⟨A, 4, none⟩ = some (.float .f64 0) ∧ w'.cell? ⟨A, 5, none⟩ = some (.int .i64 0) ∧ w'.cell? ⟨A, 6, none⟩ = some (.int .i32 0) ∧ w'.cell? ⟨A, 7, none⟩ = some (.int .u8 0) ∧ w'.cell? ⟨A, 8, none⟩ = some (.bool false) ∧ w'.cell? ⟨A, 9, none⟩ = some (.bool false) ∧ w'.cell? ⟨A, 10, none⟩ = some (.bool false)) w2.drew) := HK.out w2.drew HS2.out (HC2.out.of_block (w' := w2.drew) rfl)
  clear x0 x1 x2 x3 x4 x5 x6 x7 HM1 HS1 HF1 HC1 HZ1 hk k2 z2
  have hwr : IntKind.i64.wrap (t + 1) = t + 1 := wrap_i64 (by omega) (by omega)
  go_region_held3 (fun w' => w'.cell? ⟨S, 1, none⟩ = some (.map (some Bt)) ∧ w'.cell? ⟨A, 3, none⟩ = some (.string ⟨#[]⟩) ∧ w'.cell? ⟨A, 4, none⟩ = some (.float .f64 0) ∧ w'.cell? ⟨A, 5, none⟩ = some (.int .i64 0) ∧ w'.cell? ⟨A, 6, none⟩ = some (.int .i32 0) ∧ w'.cell? ⟨A, 7, none⟩ = some (.int .u8 0) ∧ w'.cell? ⟨A, 8, none⟩ = some (.bool false) ∧ w'.cell? ⟨A, 9, none⟩ = some (.bool false) ∧ w'.cell? ⟨A, 10, none⟩ = some (.bool false)) (first | exact hX4.out | exact hX3.out | exact hx2.out) ((go_at_call 32; refine (text_zero _).mono ?_; rintro e w3 ⟨rfl, q3⟩; have M3 : MapAt w3 Bt n D := MapAt.below (w := w2.drew) HM2.out q3; have hlk := look_empty M3 HD.out; obtain ⟨w4, hup, hM4, hg4⟩ := World.ownsMap.update M3 law Tryd.underlying35 (by unfold maxLen; omega) noKey_ok (plainElem_int Tryd.underlying3 (WalkArith.wf_i64 (n := t + 1) ⟨by omega, by omega⟩)); have s3 : Hid (w3.heap[S]? = some (sampleObj (.slice na nl nc) Bt (cmp + 1) Bw con)) := (q3.block S (by show S < w2.heap.size; omega)).trans HS2.out; have cc3 : Hid (Const w3 A) := HC2.out.of_block (q3.block A (by show A < w2.heap.size; omega)); have hsz3 : w2.heap.size ≤ w3.heap.size := q3.size; have s4 : Hid (w4.heap[S]? = some (sampleObj (.slice na nl nc) Bt (cmp + 1) Bw con)) := (hg4.block S (by omega) (fun e => hSB (Option.some.inj e))).trans s3.out; have cc4 : Hid (Const w4 A) := cc3.out.of_block (hg4.block A (by omega) (fun e => by have := Option.some.inj e; omega)); have hX3 : Hid ((fun w' => w'.cell? ⟨S, 1, none⟩ = some (.map (some Bt)) ∧ w'.cell? ⟨A, 3, none⟩ = some (.string ⟨#[]⟩) ∧ w'.cell? ⟨A, 4, none⟩ = some (.float .f64 0) ∧ w'.cell? ⟨A, 5, none⟩ = some (.int .i64 0) ∧ w'.cell? ⟨A, 6, none⟩ = some (.int .i32 0) ∧ w'.cell? ⟨A, 7, none⟩ = some (.int .u8 0) ∧ w'.cell? ⟨A, 8, none⟩ = some (.bool false) ∧ w'.cell? ⟨A, 9, none⟩ = some (.bool false) ∧ w'.cell? ⟨A, 10, none⟩ = some (.bool false)) w3) := HK.out w3 s3.out cc3.out; have hX4 : Hid ((fun w' => w'.cell? ⟨S, 1, none⟩ = some (.map (some Bt)) ∧ w'.cell? ⟨A, 3, none⟩ = some (.string ⟨#[]⟩) ∧ w'.cell? ⟨A, 4, none⟩ = some (.float .f64 0) ∧ w'.cell? ⟨A, 5, none⟩ = some (.int .i64 0) ∧ w'.cell? ⟨A, 6, none⟩ = some (.int .i32 0) ∧ w'.cell? ⟨A, 7, none⟩ = some (.int .u8 0) ∧ w'.cell? ⟨A, 8, none⟩ = some (.bool false) ∧ w'.cell? ⟨A, 9, none⟩ = some (.bool false) ∧ w'.cell? ⟨A, 10, none⟩ = some (.bool false)) w4) := HK.out w4 s4.out cc4.out; have HE : Hid (MapAt w4 Bt (n + 1) (D.put noKey (.lit (.int .i64 (t + 1)))) ∧ Holds (D.put noKey (.lit (.int .i64 (t + 1)))) (t + 1) ∧ Fr Bt S w w4) := ⟨hM4, atKey_put_same (World.ownsMap.isMap M3) (show WideAt.IsKeyLit noKey from trivial) _ _, Fr.grown ⟨q3.os.trans HF2.out.os, q3.tape.trans HF2.out.tape, q3.output.trans HF2.out.output, by omega, fun k hk h1 h2 => (q3.block k (by show k < w2.heap.size; omega)).trans (HF2.out.block k hk h1 h2)⟩ hg4⟩; clear M3 hM4 hg4 q3))
  go_wp2
  refine bodyPost_ret (results_none rfl _ _ _) rfl ?_
  exact ⟨rfl, ⟨_, HE.out.1, HE.out.2.1⟩, s4.out, HE.out.2.2⟩
end Go.Proofs.Qxb6603875aDoor
