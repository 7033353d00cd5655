/-
  The law's walk.
-/
import Derived.Test.Qxb6604153aDoorN8
import Derived.BigQuiet
namespace Go.Proofs.Qxb6604153aDoor
open Go.RowKit Go.Deep Go.Maps Go.WideMaps
set_option linter.unusedVariables false

theorem LowAt.below {p low : ByteArray} {w w' : World} (h : LowAt p low w) (hb : Below w.heap.size w w') : LowAt p low w' := fun w'' hb' => h w'' (hb.trans (hb'.mono hb.size))

theorem RecsAt.at {w : World} {a : Option Addr} {n cap k : Nat} {rs : List Rec} (h : RecsAt w (.slice a n cap) rs) (hn : rs.length = n) (hk : k < n) : ∃ b off, a = some ⟨b, off, none⟩ ∧ b < w.heap.size ∧ RecAt w b (off + k * 5) (recAt rs k) := by
  obtain ⟨_, _, e, h⟩ := h
  cases e
  rcases h with h0 | ⟨b, off, e, hlt, hc⟩
  · omega
  · exact ⟨b, off, e, hlt, hc k hk⟩

set_option maxRecDepth 1000000 in
set_option maxHeartbeats 4000000 in
theorem law_walk (v : Value) (p low : ByteArray) (rs : List Rec) (w : World) (h : RecsAt w v rs) (hs : ∀ j, j < rs.length → (recAt rs j).Small 9223372036854775807) (bl : rs.length ≤ 9223372036854775807) (bp : p.size ≤ 9223372036854775807) (hlow : p.size ≤ 65536 → LowAt p low w) :
    Calls Tryd.prog 3 #[v, .string p] w (AnsLaw w) := by
  have HZ : Hid _ := zzBytes_any v rs p w h hs bl bp
  have H0 : Hid (RecsAt w v rs) := h
  have HW0 : Hid (p.size ≤ 65536 → LowAt p low w) := hlow
  clear hs hlow
  obtain ⟨a0, cap0, rfl, -⟩ := h
  generalize hn : rs.length = n at *
  have HN : Hid (rs.length = n) := hn
  clear hn
  go_enter Tryd.func3, Tryd.ntmps3
  go_wp2_with fail
  refine Calls.mono HZ.out ?_
  rintro e w' ⟨b, rfl, hw', hL⟩
  obtain rfl := hw'.symm
  cases b with
  | false =>
    go_wp2_with fail
    go_ret
    exact ⟨rfl, Below.refl _ _⟩
  | true =>
    have HS : Hid (∀ j, j < rs.length → (recAt rs j).Small 1048576) := by
      rw [HN.out]
      exact hL rfl
    clear hL HZ
    go_wp2_with fail
    all_goals first
      | (go_ret; exact ⟨rfl, Below.refl _ _⟩)
      | skip
    have hn4 : n ≤ 4096 := by omega
    have HW : Hid (LowAt p low w) := HW0.out (by omega)
    clear HW0
    have hn4' : rs.length ≤ 4096 := by rw [HN.out]; exact hn4
    have HN4 : Hid (rs.length ≤ 4096) := hn4'
    clear hn4'
    refine Calls.mono (cfgBytes_any _ rs _ H0.out HS.out HN4.out) ?_
    rintro e w1 ⟨z, rfl, b1⟩
    have R1 : Hid (RecsAt w1 (.slice a0 n cap0) rs) := H0.out.below b1
    have B1 : Hid (Below w.heap.size w w1) := b1
    clear b1 H0
    go_wp2_with fail
    all_goals first
      | (go_ret; exact ⟨rfl, B1.out⟩)
      | skip
    refine Calls.mono (clone_any _ rs _ R1.out HN4.out) ?_
    rintro e w2 ⟨v2, rfl, r2, b2⟩
    have R2 : Hid (RecsAt w2 v2 rs) := r2
    have B2 : Hid (Below w.heap.size w w2) := B1.out.trans (b2.mono B1.out.size)
    obtain ⟨a2, cap2, rfl, -⟩ := r2
    rw [HN.out]
    rw [HN.out] at R2
    clear R1 B1 b2
    go_wp2_with fail
    refine Calls.mono (newConfig_any _) ?_
    rintro e w3 ⟨rfl, c3, b3, l3⟩
    have C3 : Hid (Cfg w3 w2.heap.size []) := c3
    have B3 : Hid (Below w2.heap.size w2 w3) := b3
    clear c3 b3
    go_wp2_with fail
    refine Calls.mono (addVars_any _ _ rs w2 w3 R2.out (Nat.le_refl _) B3.out C3.out HN4.out) ?_
    rintro e w4 ⟨rfl, c4, b4⟩
    have C4 : Hid (Cfg w4 w2.heap.size rs) := c4
    have B4 : Hid (Below w2.heap.size w2 w4) := B3.out.trans b4
    have R4 : Hid (RecsAt w4 (.slice a2 n cap2) rs) := R2.out.below B4.out
    have D4 : Hid (Below w.heap.size w w4) := B2.out.trans (B4.out.mono B2.out.size)
    clear c4 b4 C3 B3 R2
    go_wp2_with fail
    refine Calls.mono (names_any _ p low rs w4 C4.out HN4.out HS.out (HW.out.below D4.out)) ?_
    rintro e w5 ⟨v5, rfl, o5, b5⟩
    have O5 : Hid (OwnS w5 w4.heap.size v5 (namesTo rs low rs.length)) := o5
    have R5 : Hid (RecsAt w5 (.slice a2 n cap2) rs) := R4.out.below b5
    have D5 : Hid (Below w.heap.size w w5) := D4.out.trans (b5.mono D4.out.size)
    obtain ⟨a5, c5, rfl⟩ := o5.slice
    clear o5 b5 C4 R4 D4 B4 B2
    go_wp2_with fail
    refine Calls.mono (HW.out w5 D5.out) ?_
    rintro e w6 ⟨rfl, b6⟩
    have O6 : Hid (OwnS w6 w4.heap.size (.slice a5 (namesTo rs low rs.length).length c5) (namesTo rs low rs.length)) := O5.out.below b6
    have R6 : Hid (RecsAt w6 (.slice a2 n cap2) rs) := R5.out.below b6
    have D6 : Hid (Below w.heap.size w w6) := D5.out.trans (b6.mono D5.out.size)
    clear b6 O5 R5 D5 HW
    generalize hL : namesTo rs low rs.length = L at *
    have HLL : Hid (namesTo rs low n = L) := by
      show namesTo rs low n = L
      rw [← hL, HN.out]
    clear hL
    have hm1 := run_make_row' (P := Tryd.prog) 29 9 (.string ⟨#[]⟩) 16 Tryd.underlying29 Tryd.info9 rfl .i64 .i64 n (by omega) (by omega)
    have hm2 := run_make_row' (P := Tryd.prog) 32 4 (.bool false) 1 Tryd.underlying32 Tryd.info4 rfl .i64 .i64 n (by omega) (by omega)
    go_wp2_with fail
    have HI : Hid _ := L1.start w6 n rs low
    generalize hw7 : (w6.alloc (.cells (madeCells #[.string ⟨#[]⟩] n) 9)).alloc (.cells (madeCells #[.bool false] n) 4) = w7 at *
    clear hm1 hm2 hw7
    have h6 : w4.heap.size ≤ w6.heap.size ∨ True := Or.inr trivial
    generalize hBc : w6.heap.size = Bc at *
    go_loopw [10] (fun i wr => ∃ k : Nat, k ≤ n ∧ i = .int .i64 k ∧ Hid (L1 w6 wr Bc (Bc + 1) n k rs low)) (fun i _ => n - (intOf i).toNat)
    case atStart => exact ⟨0, Nat.zero_le _, rfl, HI⟩
    case round =>
      obtain ⟨k, hk, rfl, HK⟩ := hrel
      clear HI
      by_cases hkl : k < n
      · obtain ⟨b, off, rfl, hlt, hc⟩ := R6.out.at HN.out hkl
        · have hrk := hc.below hlt HK.out.below
          obtain ⟨d0, d1, d2, d3, d4⟩ := hrk
          have hsm := HS.out k (by rw [HN.out]; exact hkl)
          have hstr := str_eq (recAt rs k).s low
          clear hc
          by_cases hin : (recAt rs k).s = low
          · have hse : ((recAt rs k).s.toList == low.toList) = true := by rw [hstr, decide_eq_true hin]
            have i0 := HK.out.ins.cell hkl
            have iz := HK.out.ins.frozen k
            have hbe : ∀ (o : Nat) (x : Value), wr.cell? ⟨b, o, none⟩ = some x → (wr.setCell ⟨Bc + 1, k, none⟩ (.bool true)).cell? ⟨b, o, none⟩ = some x := fun o x hx => (World.cell?_of_block (w := wr) (Below.heap_setCell _ _ _ _ (by show b ≠ Bc + 1; omega))).trans hx
            have e0 := hbe _ _ d0
            have e1 := hbe _ _ d1
            have e2 := hbe _ _ d2
            have e3 := hbe _ _ d3
            have e4 := hbe _ _ d4
            have HST : Hid (∀ w', Below (wr.setCell ⟨Bc + 1, k, none⟩ (.bool true)).heap.size (wr.setCell ⟨Bc + 1, k, none⟩ (.bool true)) w' → L1 w6 (w'.setCell ⟨Bc, k, none⟩ (.string (nameOf (recAt rs k)))) Bc (Bc + 1) n (k + 1) rs low) := fun w' hb => HK.out.into hin (by omega) (by omega) (by omega) hb
            have HCC : Hid (∀ w', Below (wr.setCell ⟨Bc + 1, k, none⟩ (.bool true)).heap.size (wr.setCell ⟨Bc + 1, k, none⟩ (.bool true)) w' → w'.rowIs Bc 9 n (fun j => .string (candF rs low k j))) := fun w' hb => rowIs_below (HK.out.cand.setOther (a := ⟨Bc + 1, k, none⟩) (by show Bc ≠ Bc + 1; omega) _) hb
            have HSM : Hid ((recAt rs k).Small 1048576) := hsm
            clear HK hin hstr hsm hbe
            generalize recAt rs k = r at *
            go_wp2_with fail
            refine Calls.mono (cfgName_any r _ HSM.out) ?_
            rintro e w8 ⟨rfl, b8⟩
            have j0 := (HCC.out _ b8).cell hkl
            have jz := (HCC.out _ b8).frozen k
            have HK' : Hid _ := HST.out _ b8
            clear b8 HCC HST e0 e1 e2 e3 e4 d0 d1 d2 d3 d4 i0 iz
            go_wp2_with fail
            exact ⟨⟨k + 1, by omega, by go_num, HK'⟩, by simp [intOf]; omega⟩
          · have hse : ((recAt rs k).s.toList == low.toList) = false := by rw [hstr, decide_eq_false hin]
            have HK' : Hid _ := HK.out.out hin
            clear HK hin hstr hsm
            generalize recAt rs k = r at *
            go_wp2_with fail
            exact ⟨⟨k + 1, by omega, by go_num, HK'⟩, by simp [intOf]; omega⟩
      · have hkk : n = k := by omega
        subst hkk
        have CD : Hid (wr.rowIs Bc 9 n (fun j => .string (candF rs low n j))) := HK.out.cand
        have IN : Hid (wr.rowIs (Bc + 1) 4 n (fun j => .bool (insF rs low n j))) := HK.out.ins
        have O8 : Hid (OwnS wr w4.heap.size (.slice a5 L.length c5) L) := O6.out.below HK.out.below
        have D8 : Hid (Below w.heap.size w wr) := D6.out.trans (HK.out.below.mono D6.out.size)
        clear HK O6 D6 R6
        go_wp2_with fail
        rename World => w8
        have HI : Hid (OwnS w8 w8.heap.size (.slice none 0 0) (namesTo rs low 0)) := ownS_nil _ _
        generalize hW : w8.heap.size = W at *
        go_loopw [11, 12, 13, 14] (fun want i _ _ w9 => ∃ (k : Nat) (a : Option Addr) (c : Nat), k ≤ n ∧ i = .int .i64 k ∧ want = .slice a (namesTo rs low k).length c ∧ Hid (OwnS w9 W (.slice a (namesTo rs low k).length c) (namesTo rs low k)) ∧ Hid (Below W w8 w9)) (fun _ i _ _ _ => n - (intOf i).toNat)
        case atStart => exact ⟨0, none, 0, Nat.zero_le _, rfl, rfl, HI, Below.refl _ _⟩
        case round =>
          rename World => w9
          obtain ⟨k, a, c, hk, rfl, rfl, HO, HB⟩ := hrel
          clear HI
          by_cases hkl : k < n
          · have i0 := IN.out.cell hkl
            have hBi : Bc + 1 < W := by rw [← hW]; exact IN.out.lt
            have hBc : Bc < W := by omega
            rw [insF_n hkl] at i0
            have i1 : w9.cell? ⟨Bc + 1, k, none⟩ = _ := (HB.out.cell (by exact hBi)).trans i0
            clear i0
            by_cases hin : (recAt rs k).s = low
            · have k0 := CD.out.cell hkl
              rw [candF_n hkl hin] at k0
              have k1 : w9.cell? ⟨Bc, k, none⟩ = _ := (HB.out.cell (by exact hBc)).trans k0
              rw [decide_eq_true hin] at i1
              have hle := namesTo_le rs low k
              clear k0
              go_wp2_with fail
              go_loopw [13, 14] (fun dup j wi => ∃ (l m : Nat), l ≤ k ∧ j = .int .i64 l ∧ dup = .bool false ∧ Hid (seenB rs low l (nameOf (recAt rs k)) = false) ∧ wi = w9.drewN m) (fun _ j _ => k - (intOf j).toNat)
              case atStart => exact ⟨0, 0, Nat.zero_le _, rfl, rfl, rfl, rfl⟩
              case round =>
                obtain ⟨l, m, hl, rfl, rfl, HSN, rfl⟩ := hrel
                by_cases hlk : l < k
                · have hln : l < n := by omega
                  have p0 := IN.out.cell hln
                  rw [insF_n hln] at p0
                  have p1 : w9.cell? ⟨Bc + 1, l, none⟩ = _ := (HB.out.cell (by exact hBi)).trans p0
                  have q0 := CD.out.cell hln
                  have q1 : w9.cell? ⟨Bc, l, none⟩ = _ := (HB.out.cell (by exact hBc)).trans q0
                  clear p0 q0
                  by_cases hinl : (recAt rs l).s = low
                  · rw [candF_n hln hinl] at q1
                    rw [decide_eq_true hinl] at p1
                    have hstr := str_eq (nameOf (recAt rs l)) (nameOf (recAt rs k))
                    by_cases hsame : nameOf (recAt rs l) = nameOf (recAt rs k)
                    · have hse : ((nameOf (recAt rs l)).toList == (nameOf (recAt rs k)).toList) = true := by rw [hstr, decide_eq_true hsame]
                      have hsk : seenB rs low k (nameOf (recAt rs k)) = true := seen_mono (j := l + 1) (by omega) (by rw [← hsame]; exact seen_here hinl)
                      have HL : (namesTo rs low (k + 1)).length = (namesTo rs low k).length := by rw [names_again hsk]
                      have HO' : Hid (∀ m, OwnS (w9.drewN m) W (.slice a (namesTo rs low (k + 1)).length c) (namesTo rs low (k + 1))) := fun m => by
                        rw [names_again hsk]
                        exact HO.out.below (Go.below_drewN (Below.refl _ _) m)
                      have HB' : Hid (∀ m, Below W w8 (w9.drewN m)) := fun m => Go.below_drewN HB.out m
                      clear hsame hstr hsk HSN hinl HO HB hin
                      generalize nameOf (recAt rs k) = nk at *
                      generalize nameOf (recAt rs l) = nl at *
                      go_wp2_with fail
                      go_quiet (fail)
                      go_wp2_with fail
                      go_roundw
                      case rel => exact ⟨k + 1, a, c, by omega, by go_num, by rw [HL], HO'.out _, HB'.out _⟩
                      case measure => simp [intOf]; omega
                    · have hse : ((nameOf (recAt rs l)).toList == (nameOf (recAt rs k)).toList) = false := by rw [hstr, decide_eq_false hsame]
                      have HSN' : Hid (seenB rs low (l + 1) (nameOf (recAt rs k)) = false) := (seen_other hsame).trans HSN.out
                      clear hsame hstr HSN hinl
                      generalize nameOf (recAt rs k) = nk at *
                      generalize nameOf (recAt rs l) = nl at *
                      go_wp2_with fail
                      go_quiet (fail)
                      go_wp2_with fail
                      go_roundw
                      case rel => exact ⟨l + 1, _, by omega, by go_num, rfl, HSN', rfl⟩
                      case measure => simp [intOf]; omega
                  · rw [decide_eq_false hinl] at p1
                    have HSN' : Hid (seenB rs low (l + 1) (nameOf (recAt rs k)) = false) := (seen_out hinl (nameOf (recAt rs k))).trans HSN.out
                    clear HSN hinl
                    generalize nameOf (recAt rs k) = nk at *
                    go_wp2_with fail
                    go_quiet (fail)
                    go_wp2_with fail
                    go_roundw
                    case rel => exact ⟨l + 1, _, by omega, by go_num, rfl, HSN', rfl⟩
                    case measure => simp [intOf]; omega
                · have hlk' : k = l := by omega
                  subst hlk'
                  have HNN : Hid (namesTo rs low (k + 1) = namesTo rs low k ++ [nameOf (recAt rs k)]) := names_new hin HSN.out
                  have HL : (namesTo rs low (k + 1)).length = (namesTo rs low k).length + 1 := by rw [HNN.out]; simp
                  have HO' : Hid (OwnS (w9.drewN m) W (.slice a (namesTo rs low k).length c) (namesTo rs low k)) := HO.out.below (Go.below_drewN (Below.refl _ _) m)
                  have HB' : Hid (Below W w8 (w9.drewN m)) := Go.below_drewN HB.out m
                  have k2 : (w9.drewN m).cell? ⟨Bc, k, none⟩ = some (.string (nameOf (recAt rs k))) := ((Go.below_drewN (Below.refl w9.heap.size w9) m).cell (by exact World.block_lt_of_cell? _ _ k1)).trans k1
                  have hW9 : W ≤ (w9.drewN m).heap.size := by rw [← hW]; exact HB'.out.size
                  clear hin HSN HO HB k1 i1
                  generalize w9.drewN m = wd at *
                  generalize nameOf (recAt rs k) = nk at *
                  go_wp2_with (at_builtin; refine wp_app1 rfl (.tmp 108) (.tmp 113) rfl W _ (namesTo rs low k) rfl (HO'.out.alloc _) nk wd.heap.size rfl (by simp) (by omega) (by rw [nblk_alloc]; omega) ?_)
                  intro a' c' w10 o10 b10
                  have HO2 : Hid (OwnS w10 W (.slice a' (namesTo rs low (k + 1)).length c') (namesTo rs low (k + 1))) := by
                    show OwnS w10 W (.slice a' (namesTo rs low (k + 1)).length c') (namesTo rs low (k + 1))
                    rw [HL, HNN.out]
                    simpa using o10
                  have HB2 : Hid (Below W w8 w10) := (HB'.out.alloc hW9 _).trans b10
                  clear o10 b10 HO' HB' k2
                  go_wp2_with fail
                  go_roundw
                  case rel => exact ⟨k + 1, a', c', by omega, by go_num, by rw [HL], HO2, HB2⟩
                  case measure => simp [intOf]; omega
            · rw [decide_eq_false hin] at i1
              have HO' : Hid (OwnS w9 W (.slice a (namesTo rs low (k + 1)).length c) (namesTo rs low (k + 1))) := by rw [names_out hin]; exact HO.out
              have HL : (namesTo rs low (k + 1)).length = (namesTo rs low k).length := by rw [names_out hin]
              clear hin HO
              go_wp2_with fail
              go_roundw
              case rel => exact ⟨k + 1, a, c, by omega, by go_num, by rw [HL], HO', HB⟩
              case measure => simp [intOf]; omega
          · have hkk : n = k := by omega
            subst hkk
            have O9 : Hid (OwnS w9 w4.heap.size (.slice a5 L.length c5) L) := O8.out.below (by rw [hW]; exact HB.out)
            have D9 : Hid (Below w.heap.size w w9) := D8.out.trans (HB.out.mono (by rw [← hW]; exact D8.out.size))
            rw [HLL.out] at HO
            rw [HLL.out]
            clear O8 D8 HB CD IN
            rcases O9.out.form with ⟨hL0, e5⟩ | ⟨hL1, g5, q5, e5, _, _, f5⟩
            · have e6 := HO.out.nil hL0
              subst hL0
              cases e5
              cases e6
              have he : ∀ w : World, (binOp .eql 29 (.slice none 0 0) (.slice none 0 0)).run Tryd.prog w = .ok (.bool true) w := fun w => Lib.run_eql_slice_nil w _ _ _ _ _ _ _ Tryd.underlying29
              clear O9 HO
              go_wp2_with fail
              go_loopw [15] (fun i wi => i = .int .i64 0 ∧ wi = w9) (fun _ _ => 0)
              case atStart => exact ⟨rfl, rfl⟩
              case round =>
                obtain ⟨rfl, rfl⟩ := hrel
                go_wp2_with fail
                go_ret
                exact ⟨rfl, D9.out⟩
            · cases e5
              rcases HO.out.form with ⟨hL0, _⟩ | ⟨_, g6, q6, e6, _, _, f6⟩
              · exact absurd hL0 hL1
              · cases e6
                have hl1 : 0 < L.length := by
                  cases L with
                  | nil => exact absurd rfl hL1
                  | cons x l => simp
                have hl2 : L.length ≤ 4096 := by rw [← HLL.out]; exact Nat.le_trans (namesTo_le rs low n) hn4
                have F5 : Hid _ := f5
                have F6 : Hid _ := f6
                have he1 : ∀ w : World, (binOp .eql 29 (.slice (some ⟨g5, 0, none⟩) L.length c5) (.slice none 0 0)).run Tryd.prog w = .ok (.bool false) w := fun w => Lib.run_eql_slice_nil w _ _ _ _ _ _ _ Tryd.underlying29
                have he2 : ∀ w : World, (binOp .eql 29 (.slice (some ⟨g6, 0, none⟩) L.length c) (.slice none 0 0)).run Tryd.prog w = .ok (.bool false) w := fun w => Lib.run_eql_slice_nil w _ _ _ _ _ _ _ Tryd.underlying29
                clear O9 HO f5 f6 hL1
                go_wp2_with fail
                go_loopw [15] (fun i wi => ∃ (l m : Nat), l ≤ L.length ∧ i = .int .i64 l ∧ wi = w9.drewN m) (fun i _ => L.length - (intOf i).toNat)
                case atStart => exact ⟨0, 0, Nat.zero_le _, rfl, rfl⟩
                case round =>
                  obtain ⟨l, m, hl, rfl, rfl⟩ := hrel
                  by_cases hll : l < L.length
                  · have y5 := F5.out l hll
                    have y6 := F6.out l hll
                    generalize L.getD l ByteArray.empty = x at *
                    have hxx : (x.toList == x.toList) = true := by simp
                    go_wp2_with fail
                    go_quiet (fail)
                    go_wp2_with fail
                    go_roundw
                    case rel => exact ⟨l + 1, _, by omega, by go_num, rfl⟩
                    case measure => simp [intOf]; omega
                  · go_wp2_with fail
                    go_ret
                    exact ⟨rfl, Go.below_drewN D9.out _⟩
end Go.Proofs.Qxb6604153aDoor
