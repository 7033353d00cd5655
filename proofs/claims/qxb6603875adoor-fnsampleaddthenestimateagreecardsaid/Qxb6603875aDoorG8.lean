/-
  For statement 5: (*sample).add at a contains atom: the walk.
-/
import Derived.Test.Qxb6603875aDoorG7
namespace Go.Proofs.Qxb6603875aDoor
open Go.RowKit Go.Maps Go.WideMaps
set_option linter.unusedVariables false

theorem set_con {w : World} {S Bt Bw : Nat} {nums : Value} {cmp con x : Int} (hS : w.heap[S]? = some (sampleObj nums Bt cmp Bw con)) : (w.setCell ⟨S, 4, none⟩ (.int .i64 x)).heap[S]? = some (sampleObj nums Bt cmp Bw x) := by
  unfold sampleObj at hS ⊢
  simp [World.setCell, Array.getElem?_modify, hS]

set_option maxRecDepth 100000 in
set_option maxHeartbeats 1000000 in
theorem add_contains (S A Bt Bw n : Nat) (na : Option Addr) (nl nc : Nat) (cmp con h : Int) (D : DataW Unit) (v : Value) (ss : List ByteArray) (p : ByteArray) (w0 w : World)
    (hb0 : Below w0.heap.size w0 w) (hS0 : w0.heap.size ≤ S) (hSA : A ≠ S) (hS : w.heap[S]? = some (sampleObj (.slice na nl nc) Bt cmp Bw con)) (hk : w.cell? ⟨A, 0, none⟩ = some (.int .u8 2)) (hv : w.cell? ⟨A, 11, none⟩ = some v)
    (hss : StrsAt w0 v ss) (hM : MapAt w0 Bw n D) (hD : HoldsAt D p h) (c0 : 0 ≤ con) (c1 : con ≤ 65536) (g0 : 0 ≤ h) (g1 : h ≤ 100000000000) (hl : ss.length ≤ 1048576) (hn : n ≤ 100000000000) :
    Calls Tryd.prog 28 #[.pointer (some ⟨S, 0, none⟩), .pointer (some ⟨A, 0, none⟩)] w
      (fun e w' => e = .returned undef ∧ Adds w w' Bw S n ss.length (sampleObj (.slice na nl nc) Bt cmp Bw (con + 1)) p (h + (cnt p ss ss.length : Int))) := by
  have hSl : S < w.heap.size := (Array.getElem?_eq_some_iff.1 hS).1
  have hBl : Bw < w0.heap.size := World.ownsMap.lt hM
  have hSB : S ≠ Bw := by omega
  have k4 : w.cell? ⟨S, 4, none⟩ = some (.int .i64 con) := obj_cell hS 4
  have z4 : w.frozen? ⟨S, 4, none⟩ = false := obj_frozen hS 4
  have hv1 : (w.setCell ⟨S, 4, none⟩ (.int .i64 (con + 1))).cell? ⟨A, 11, none⟩ = some v := (World.cell?_of_block (w := w) (Below.heap_setCell _ _ _ _ (by exact hSA))).trans hv
  have I0 : Adds w (w.setCell ⟨S, 4, none⟩ (.int .i64 (con + 1))) Bw S n 0 (sampleObj (.slice na nl nc) Bt cmp Bw (con + 1)) p (h + (cnt p ss 0 : Int)) := by
    refine ⟨⟨D, ?_, by simpa [cnt] using hD⟩, set_con hS, Fr.set _ _ _ _ _⟩
    obtain ⟨es, clock, hbk, F, hs, hDD⟩ := hM.below hb0
    exact ⟨es, clock, (Below.heap_setCell _ _ _ _ (by exact hSB.symm)).trans hbk, F, hs, hDD⟩
  obtain ⟨a, cap, rfl, hsz, hcs⟩ := hss
  have HC : Hid (ss.length = 0 ∨ ∃ b off, a = some (⟨b, off, none⟩ : Addr) ∧ b < w0.heap.size ∧ ∀ j, j < ss.length → w0.cell? ⟨b, off + j, none⟩ = some (.string (ss.getD j ByteArray.empty))) := hcs
  have HZ : Hid (∀ s ∈ ss, s.size ≤ maxLen) := hsz
  have HM : Hid (MapAt w0 Bw n D) := hM
  have HB : Hid (Below w0.heap.size w0 w) := hb0
  have HS : Hid (w.heap[S]? = some (sampleObj (.slice na nl nc) Bt cmp Bw con)) := hS
  clear hcs hsz hM hb0 hD hv hS
  go_enter Tryd.func28, Tryd.ntmps28
  go_wp2
  generalize w.setCell ⟨S, 4, none⟩ (.int .i64 (con + 1)) = w1 at *
  have HI : Hid _ := I0
  clear I0 hv1 hk k4 z4
  go_loopw [66, 5] (fun i _ wr => ∃ k : Nat, k ≤ ss.length ∧ i = .int .i64 k ∧ Hid (Adds w wr Bw S n k (sampleObj (.slice na nl nc) Bt cmp Bw (con + 1)) p (h + (cnt p ss k : Int)))) (fun i _ _ => ss.length - (intOf i).toNat)
  case atStart => exact ⟨0, Nat.zero_le _, rfl, HI⟩
  case round =>
    obtain ⟨k, hk, rfl, hr⟩ := hrel
    by_cases hkl : k < ss.length
    · rcases HC.out with h0 | ⟨b, off, rfl, hlt, hc⟩
      · exact absurd hkl (by omega)
      · have hx0 := hc k hkl
        obtain ⟨s, hs⟩ : ∃ s, s = ss.getD k ByteArray.empty := ⟨_, rfl⟩
        have hsz : s.size ≤ maxLen := by
          rw [hs]
          exact HZ.out _ (by rw [List.getD_eq_getElem?_getD, List.getElem?_eq_getElem hkl]; exact List.getElem_mem _)
        have hbB : b ≠ Bw := map_ne_cell HM.out hx0
        have hsw : w0.heap.size ≤ w.heap.size := HB.out.size
        obtain ⟨⟨Dk, hMk, hHk⟩, hSk, hfk⟩ := hr.out
        have hx : wr.cell? ⟨b, off + k, none⟩ = some (.string s) := by
          rw [hs]
          exact (World.cell?_of_block (w := w) (hfk.block b (by omega) hbB (by omega))).trans ((HB.out.cell (by exact hlt)).trans hx0)
        have k3 : wr.cell? ⟨S, 3, none⟩ = some (.map (some Bw)) := obj_cell hSk 3
        obtain ⟨c, hlk, hcc, hwf⟩ := look_at hMk s hsz
        have hMk' : wr.ownsMap Tryd.prog 9 (plainElem Tryd.prog 3) Bw (n + k) Dk := hMk
        have hkey := keyS_ok s hsz
        have hSr : S < wr.heap.size := (Array.getElem?_eq_some_iff.1 hSk).1
        have hck := cnt_le p ss k
        have HX : Hid (s = ss.getD k ByteArray.empty) := hs
        have HST : Hid (∀ w2, MapAt w2 Bw (n + k + 1) (Dk.put (keyS s) (.lit (.int .i64 (wrap64 (c + 1))))) → wr.grownBy w2 (some Bw) → Adds w w2 Bw S n (k + 1) (sampleObj (.slice na nl nc) Bt cmp Bw (con + 1)) p (h + (cnt p ss (k + 1) : Int))) := by
          intro w2 ho hg
          have := Adds.step hMk hHk hcc hSk hfk hSB hSr ho hg (by omega) (by omega)
          have e : h + (cnt p ss k : Int) + ((if s = p then 1 else 0 : Nat) : Int) = h + (cnt p ss (k + 1) : Int) := by
            rw [hs]
            show _ = h + ((cnt p ss k + (if ss.getD k ByteArray.empty = p then 1 else 0) : Nat) : Int)
            omega
          rw [← e]
          exact this
        clear hs hx0 hc hMk hHk hcc hSk hfk hr HC HI
        go_wp2_with (at_mapUpdate; refine wpList_mapUpdate_own _ rfl _ _ _ 35 rfl 9 3 law Tryd.underlying35 _ Bw (n + k) _ rfl hMk' (by unfold maxLen; omega) _ _ _ rfl rfl hkey _ [] (plainElem_int Tryd.underlying3 (wrap64_wf _)) ?_)
        intro w2 hown hg
        have R : Hid (Adds w w2 Bw S n (k + 1) (sampleObj (.slice na nl nc) Bt cmp Bw (con + 1)) p (h + (cnt p ss (k + 1) : Int))) := HST.out w2 hown hg
        clear hown hg hMk' HST hlk
        go_wp2
        go_roundw
        case rel => exact ⟨k + 1, by omega, by go_num, R⟩
        case measure => simp [intOf]; omega
    · have : k = ss.length := by omega
      subst this
      clear HC HI
      go_wp2
      go_end0
      exact ⟨rfl, hr.out⟩
end Go.Proofs.Qxb6603875aDoor
