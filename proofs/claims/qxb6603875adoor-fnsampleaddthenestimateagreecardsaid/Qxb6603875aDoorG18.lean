/-
  For statement 5: the law's walk.
-/
import Derived.Test.Qxb6603875aDoorG17
namespace Go.Proofs.Qxb6603875aDoor
open Go.RowKit Go.Maps Go.WideMaps
set_option linter.unusedVariables false

theorem inv_start {w w2 : World} {vk vl : Value} {n0 len : Nat} (p : ByteArray) (hk : SlAt IsByte w2 vk n0) (hl : LstAt w2 vl len 1048576) (hb : Below w.heap.size w w2) :
    Inv w ((w2.alloc (.map #[] 0)).alloc (.map #[] 0)) vk vl n0 len w2.heap.size (w2.heap.size + 1) 0 p 0 0 0 := by
  have e1 : (w2.alloc (.map #[] 0)).heap.size = w2.heap.size + 1 := Deep.nblk_alloc _ _
  have hb1 : Below w2.heap.size w2 (w2.alloc (.map #[] 0)) := (Below.refl _ _).alloc (Nat.le_refl _) _
  have hb2 : Below (w2.alloc (.map #[] 0)).heap.size (w2.alloc (.map #[] 0)) ((w2.alloc (.map #[] 0)).alloc (.map #[] 0)) := (Below.refl _ _).alloc (Nat.le_refl _) _
  have hb3 : Below w2.heap.size w2 ((w2.alloc (.map #[] 0)).alloc (.map #[] 0)) := hb1.trans (hb2.mono hb1.size)
  have m1 : MapAt (w2.alloc (.map #[] 0)) w2.heap.size 0 (.map []) := World.ownsMap_made _ _ _ _
  have m2 : MapAt ((w2.alloc (.map #[] 0)).alloc (.map #[] 0)) (w2.alloc (.map #[] 0)).heap.size 0 (.map []) := World.ownsMap_made _ _ _ _
  rw [e1] at m2
  exact ⟨⟨0, .map [], m1.below hb2, rfl, Nat.le_refl _⟩, ⟨0, .map [], m2, rfl, Nat.zero_le _⟩, hk.below hb3, hl.below hb3, hb.trans (hb3.mono hb.size), by omega, hb.size, by have := hb.size; omega, Nat.le_refl _, Nat.zero_le _⟩

theorem toList_inj {a b : ByteArray} (h : a.toList = b.toList) : a = b := by
  rw [ByteArray.toList_eq, ByteArray.toList_eq] at h
  cases a; cases b
  exact congrArg ByteArray.mk (Array.toList_inj.1 h)

set_option maxRecDepth 1000000 in
set_option maxHeartbeats 4000000 in
theorem agree_walk (v0 v1 : Value) (p : ByteArray) (n0 len : Nat) (w : World) (h0 : SlAt IsByte w v0 n0) (h1 : LstAt w v1 len 9223372036854775807) (b0 : n0 ≤ 9223372036854775807) (b1 : len ≤ 9223372036854775807) (bp : p.size ≤ 9223372036854775807) :
    Calls Tryd.prog 5 #[v0, v1, .string p] w (AnsLaw w) := by
  have H0 : Hid (SlAt IsByte w v0 n0) := h0
  have hZ := zzBytes5_any v0 v1 p n0 len w h0 h1 b1 bp
  have HZ : Hid _ := hZ
  clear hZ
  obtain ⟨a0, cap0, rfl, -⟩ := h0
  obtain ⟨a1, cap1, rfl, -⟩ := h1
  have hmm := @run_makeMap Tryd.prog
  go_enter Tryd.func5, Tryd.ntmps5
  go_wp2_with fail
  refine Calls.mono HZ.out ?_
  rintro e w' ⟨v, rfl, hw', hL⟩
  obtain rfl := hw'.symm
  cases v with
  | false =>
    go_wp2_with fail
    go_ret
    exact ⟨rfl, Below.refl _ _⟩
  | true =>
    have HL : Hid (LstAt w (.slice a1 len cap1) len 1048576) := hL rfl
    clear hL HZ
    go_wp2_with fail
    all_goals first
      | (go_ret; exact ⟨rfl, Below.refl _ _⟩)
      | skip
    go_loop [7, 8] (fun sz i => ∃ (k : Nat) (z : Int), k ≤ len ∧ i = .int .i64 k ∧ sz = .int .i64 z) (fun _ i => len - (intOf i).toNat)
    case atStart => exact ⟨0, _, Nat.zero_le _, rfl, rfl⟩
    case round =>
      obtain ⟨k, z, hk, rfl, rfl⟩ := hrel
      by_cases hkl : k < len
      · by_cases hz : z ≤ 1048576
        · obtain ⟨a, cap, hva, hrow⟩ := HL.out
          cases hva
          rcases hrow with e | ⟨b, off, rfl, hlt, hc⟩
          · exact absurd hkl (by omega)
          · obtain ⟨x, n, hx, hS, hn⟩ := hc k hkl
            have HS : Hid (SlAt IsStr w x n) := hS
            obtain ⟨xa, xc, rfl, -⟩ := hS
            clear hc
            go_wp2_with fail
            refine Calls.mono (strBytes_any _ n _ HS.out (by omega)) ?_
            rintro e w' ⟨y, rfl, hw'⟩
            obtain rfl := hw'.symm
            go_wp2_with fail
            exact ⟨⟨k + 1, _, by omega, by go_num, rfl⟩, by simp [intOf]; omega⟩
        · have hz' : 1048576 < z := by omega
          go_wp2_with fail
          go_ret
          exact ⟨rfl, Below.refl _ _⟩
      · have hkk : k = len := by omega
        go_wp2_with fail
        all_goals first
          | (go_ret; exact ⟨rfl, Below.refl _ _⟩)
          | skip
        refine Calls.mono (cloneBytes_any _ n0 _ H0.out (by omega)) ?_
        rintro e w1 ⟨u0, rfl, s0, q1⟩
        have K1 : Hid (SlAt IsByte w1 u0 n0) := s0
        have L1 : Hid (LstAt w1 (.slice a1 len cap1) len 1048576) := HL.out.below q1
        have B1 : Hid (Below w.heap.size w w1) := q1
        obtain ⟨x0, y0, rfl, -⟩ := s0
        clear H0 HL q1
        go_wp2_with fail
        refine Calls.mono (cloneLists_any _ len 1048576 _ L1.out (by omega) (by omega)) ?_
        rintro e w2 ⟨u1, rfl, s1, q2⟩
        have L2 : Hid (LstAt w2 u1 len 1048576) := s1
        have K2 : Hid (SlAt IsByte w2 _ n0) := K1.out.below q2
        have B2 : Hid (Below w.heap.size w w2) := B1.out.trans (q2.mono B1.out.size)
        obtain ⟨x1, y1, rfl, -⟩ := s1
        clear K1 L1 B1 q2
        go_wp2_with fail
        have HI0 : Hid _ := inv_start p K2.out L2.out B2.out
        have hbt : w.heap.size ≤ w2.heap.size := B2.out.size
        generalize (w2.alloc (Obj.map #[] 0)).alloc (Obj.map #[] 0) = w3 at *
        clear K2 L2 B2 hmm
        go_loopw [9, 10, 11, 12, 13, 14, 15, 16, 17, 18, 19, 20] (fun nums tx wd cm cn hd nq ns i _ _ _ wr => ∃ (k c q h : Nat), k ≤ n0 ∧ nums = .slice none 0 0 ∧ tx = .map (some w2.heap.size) ∧ wd = .map (some (w2.heap.size + 1)) ∧ cm = .int .i64 c ∧ cn = .int .i64 q ∧ hd = .int .i64 h ∧ nq = .int .i64 q ∧ ns = .int .i64 c ∧ i = .int .i64 k ∧ Hid (Inv w wr (.slice x0 n0 y0) (.slice x1 len y1) n0 len w2.heap.size (w2.heap.size + 1) k p c q h)) (fun _ _ _ _ _ _ _ _ i _ _ _ _ => n0 - (intOf i).toNat)
        case atStart => exact ⟨0, 0, 0, 0, Nat.zero_le _, rfl, rfl, rfl, rfl, rfl, rfl, rfl, rfl, rfl, HI0⟩
        case round =>
          obtain ⟨k, c, q, h, hk, rfl, rfl, rfl, rfl, rfl, rfl, rfl, rfl, rfl, HI⟩ := hrel
          clear HI0
          generalize w2.heap.size = Bt at *
          by_cases hkl : k < n0
          · obtain ⟨nt, Dt, t1, t2, t3⟩ := HI.out.texts
            obtain ⟨nw, Dw, u1, u2, u3⟩ := HI.out.words
            have hck := HI.out.ck
            have hhh := HI.out.hh
            have T1 : Hid (MapAt wr Bt nt Dt) := t1
            have T2 : Hid (Holds Dt (c : Int)) := t2
            have U1 : Hid (MapAt wr (Bt + 1) nw Dw) := u1
            have U2 : Hid (HoldsAt Dw p (h : Int)) := u2
            obtain ⟨bk, ok, kd, rfl, hkd⟩ : ∃ bk ok kd, x0 = some ⟨bk, ok, none⟩ ∧ wr.cell? ⟨bk, ok + k, none⟩ = some (.int .u8 kd) := by
              obtain ⟨a, cp, e, hr⟩ := HI.out.kinds
              cases e
              rcases hr with e | ⟨b, off, rfl, hlt, hc⟩
              · omega
              · obtain ⟨x, hx, kd, rfl⟩ := hc k hkl
                exact ⟨b, off, kd, rfl, hx⟩
            clear t1 t2 u1 u2
            by_cases hkn : k < len
            · obtain ⟨bl, ol, la, lc, ss, rfl, hlx, hls, hll⟩ : ∃ bl ol la lc, ∃ ss : List ByteArray, x1 = some ⟨bl, ol, none⟩ ∧ wr.cell? ⟨bl, ol + k, none⟩ = some (.slice la ss.length lc) ∧ Hid (StrsAt wr (.slice la ss.length lc) ss) ∧ ss.length ≤ 1048576 := by
                obtain ⟨a, cp, e, hr⟩ := HI.out.lists
                cases e
                rcases hr with e | ⟨b, off, rfl, hlt, hc⟩
                · omega
                · obtain ⟨x, l, hx, hS, hl⟩ := hc k hkn
                  obtain ⟨ss, hsl, hss⟩ := strsAt_of hS
                  subst hsl
                  have hss' := hss
                  obtain ⟨la, lc, rfl, _⟩ := hss'
                  exact ⟨b, off, la, lc, ss, rfl, hx, hss, hl⟩
              by_cases h2 : kd = 2
              · subst h2
                go_wp2_with fail
                go_loop [14, 20] (fun hd j => ∃ l : Nat, l ≤ ss.length ∧ hd = .int .i64 ((h + cnt p ss l : Nat) : Int) ∧ j = .int .i64 l) (fun _ j => ss.length - (intOf j).toNat)
                case atStart => exact ⟨0, Nat.zero_le _, by simp [cnt], rfl⟩
                case round =>
                  obtain ⟨l, hl, rfl, rfl⟩ := hrel
                  by_cases hlk : l < ss.length
                  · obtain ⟨a, cp, e, hsz, hr⟩ := hls.out
                    cases e
                    rcases hr with e | ⟨b, off, rfl, hlt, hc⟩
                    · omega
                    · have hx := hc l hlk
                      have hcl := cnt_le p ss l
                      clear hc hsz
                      by_cases hp : ss.getD l ByteArray.empty = p
                      · have hcn : cnt p ss (l + 1) = cnt p ss l + 1 := by show cnt p ss l + _ = _; rw [if_pos hp]
                        rw [hp] at hx
                        have hpp : (p.toList == p.toList) = true := by simp
                        go_wp2_with fail
                        exact ⟨⟨l + 1, by omega, by rw [hcn]; go_num, by go_num⟩, by simp [intOf]; omega⟩
                      · have hcn : cnt p ss (l + 1) = cnt p ss l := by show cnt p ss l + _ = _; rw [if_neg hp]; rfl
                        have hpp : ((ss.getD l ByteArray.empty).toList == p.toList) = false := by
                          rw [beq_eq_false_iff_ne]
                          exact fun e => hp (toList_inj e)
                        generalize ss.getD l ByteArray.empty = s at *
                        go_wp2_with fail
                        exact ⟨⟨l + 1, by omega, by rw [hcn], by go_num⟩, by simp [intOf]; omega⟩
                  · have hle : l = ss.length := by omega
                    subst hle
                    go_wp2_with fail
                    refine Calls.mono (zzadd_contains none 0 0 Bt (Bt + 1) nw c q h Dw _ ss p wr hls.out U1.out U2.out (by omega) (by omega) (by omega) (by omega) hll (by omega)) ?_
                    rintro e w4 ⟨rfl, hm, hg⟩
                    have HN : Hid _ := HI.out.contains U1.out u3 hll (cnt_le p ss ss.length) hm hg
                    clear hm hg
                    go_wp2_with fail
                    go_roundw
                    case rel => exact ⟨k + 1, c, q + 1, h + cnt p ss ss.length, by omega, rfl, rfl, rfl, rfl, by go_num, rfl, by go_num, rfl, by go_num, HN⟩
                    case measure => simp [intOf]; omega
              · by_cases h3 : kd = 3
                · subst h3
                  go_wp2_with fail
                  refine Calls.mono (zzadd_like none 0 0 Bt (Bt + 1) c q _ _ _ wr) ?_
                  rintro e w4 ⟨rfl, hm⟩
                  have HN : Hid _ := HI.out.like hm
                  clear hm
                  go_wp2_with fail
                  go_roundw
                  case rel => exact ⟨k + 1, c, q, h, by omega, rfl, rfl, rfl, rfl, rfl, rfl, rfl, rfl, by go_num, HN⟩
                  case measure => simp [intOf]; omega
                · go_wp2_with fail
                  refine Calls.mono (zzadd_other none 0 0 Bt (Bt + 1) nt c q kd c Dt _ _ _ wr h2 h3 T1.out T2.out (by omega) (by omega) (by omega) (by omega) (by omega)) ?_
                  rintro e w4 ⟨rfl, hm, hg⟩
                  have HN : Hid _ := HI.out.other T1.out t3 hm hg
                  clear hm hg
                  go_wp2_with fail
                  go_roundw
                  case rel => exact ⟨k + 1, c + 1, q, h, by omega, rfl, rfl, rfl, by go_num, rfl, rfl, rfl, by go_num, by go_num, HN⟩
                  case measure => simp [intOf]; omega
            · by_cases h2 : kd = 2
              · subst h2
                go_wp2_with fail
                go_loop [14, 20] (fun hd j => hd = .int .i64 (h : Int) ∧ j = .int .i64 0) (fun _ _ => 0)
                case atStart => exact ⟨rfl, rfl⟩
                case round =>
                  obtain ⟨rfl, rfl⟩ := hrel
                  go_wp2_with fail
                  refine Calls.mono (zzadd_contains none 0 0 Bt (Bt + 1) nw c q h Dw (.slice none 0 0) [] p wr ⟨none, 0, rfl, fun s hs => by simp at hs, Or.inl rfl⟩ U1.out U2.out (by omega) (by omega) (by omega) (by omega) (Nat.zero_le _) (by omega)) ?_
                  rintro e w4 ⟨rfl, hm, hg⟩
                  have HN : Hid _ := HI.out.contains U1.out u3 (Nat.zero_le _) (Nat.le_refl _) hm hg
                  clear hm hg
                  go_wp2_with fail
                  go_roundw
                  case rel => exact ⟨k + 1, c, q + 1, h, by omega, rfl, rfl, rfl, rfl, by go_num, rfl, by go_num, rfl, by go_num, HN⟩
                  case measure => simp [intOf]; omega
              · by_cases h3 : kd = 3
                · subst h3
                  go_wp2_with fail
                  refine Calls.mono (zzadd_like none 0 0 Bt (Bt + 1) c q _ _ _ wr) ?_
                  rintro e w4 ⟨rfl, hm⟩
                  have HN : Hid _ := HI.out.like hm
                  clear hm
                  go_wp2_with fail
                  go_roundw
                  case rel => exact ⟨k + 1, c, q, h, by omega, rfl, rfl, rfl, rfl, rfl, rfl, rfl, rfl, by go_num, HN⟩
                  case measure => simp [intOf]; omega
                · go_wp2_with fail
                  refine Calls.mono (zzadd_other none 0 0 Bt (Bt + 1) nt c q kd c Dt _ _ _ wr h2 h3 T1.out T2.out (by omega) (by omega) (by omega) (by omega) (by omega)) ?_
                  rintro e w4 ⟨rfl, hm, hg⟩
                  have HN : Hid _ := HI.out.other T1.out t3 hm hg
                  clear hm hg
                  go_wp2_with fail
                  go_roundw
                  case rel => exact ⟨k + 1, c + 1, q, h, by omega, rfl, rfl, rfl, by go_num, rfl, rfl, rfl, by go_num, by go_num, HN⟩
                  case measure => simp [intOf]; omega
          · obtain ⟨nt, Dt, t1, t2, t3⟩ := HI.out.texts
            obtain ⟨nw, Dw, u1, u2, u3⟩ := HI.out.words
            have hck := HI.out.ck
            have hhh := HI.out.hh
            have HB : Hid (Below w.heap.size w wr) := HI.out.below
            have E3 : Hid (∀ w', Below wr.heap.size wr w' → Calls Tryd.prog 23 #[.slice none 0 0, .map (some Bt), .int .i64 c, .map (some (Bt + 1)), .int .i64 q, .int .u8 1, .int .u8 3, .slice none 0 0] w' (AnsV (.float .f64 4602678819172646912) w')) := fun w' hb =>
              zzestimate_any _ none 0 0 Bt nt Dt c (Bt + 1) q 1 3 none 0 0 w' (t1.below hb) fun w S A hR => estimate_other S A Bt nt Dt c 1 c 3 w hR (by decide) (by decide) t2 (by decide) (by decide)
            have E4 : Hid (∀ w', Below wr.heap.size wr w' → Calls Tryd.prog 23 #[.slice none 0 0, .map (some Bt), .int .i64 c, .map (some (Bt + 1)), .int .i64 q, .int .u8 3, .int .u8 0, .slice none 0 0] w' (AnsV (.float .f64 4602678819172646912) w')) := fun w' hb =>
              zzestimate_any _ none 0 0 Bt nt Dt c (Bt + 1) q 3 0 none 0 0 w' (t1.below hb) fun w S A hR => estimate_like S A Bt nt Dt c 0 w hR
            have T1 : Hid (MapAt wr Bt nt Dt) := t1
            have T2 : Hid (Holds Dt (c : Int)) := t2
            have U1 : Hid (MapAt wr (Bt + 1) nw Dw) := u1
            have U2 : Hid (HoldsAt Dw p (h : Int)) := u2
            have hps : p.size ≤ maxLen := by unfold maxLen; omega
            have hd := fun (w : World) => run_quo_nan w
            have hnn : IsNaN (nanAt wr 0 0) := nan_cut _ _ _
            have hhalf : FloatKind.f64.format.order 4602678819172646912 4602678819172646912 = some .eq := order_eq (by decide)
            clear t1 t2 u1 u2 HI
            rcases Nat.eq_zero_or_pos q with rfl | hq
            · have hh0 : h = 0 := by omega
              subst hh0
              have M1 : Hid (∀ w' Pb cap, Below wr.heap.size wr w' → w'.cell? ⟨Pb, 0, none⟩ = some (.string p) → Pb < w'.heap.size → Calls Tryd.prog 23 #[.slice none 0 0, .map (some Bt), .int .i64 c, .map (some (Bt + 1)), .int .i64 0, .int .u8 2, .int .u8 0, .slice (some ⟨Pb, 0, none⟩) 1 cap] w' (AnsF IsNaN w')) := fun w' Pb cap hb hp hl =>
                e5_word_nan none 0 0 Bt (Bt + 1) nw Dw c p w' Pb cap (U1.out.below hb) U2.out hps hp hl
              have S1 : Hid (∀ x, IsNaN x → ∀ w', Calls Tryd.prog 19 #[.float .f64 x, .float .f64 (nanAt wr 0 0)] w' (AnsT w')) := fun x hx w' => same_nan x _ hx hnn w'
              clear U1 U2
              rcases Nat.eq_zero_or_pos c with rfl | hc
              · have M2 : Hid (∀ w', Below wr.heap.size wr w' → Calls Tryd.prog 23 #[.slice none 0 0, .map (some Bt), .int .i64 0, .map (some (Bt + 1)), .int .i64 0, .int .u8 1, .int .u8 1, .slice none 0 0] w' (AnsF IsNaN w')) := fun w' hb => e5_nan none 0 0 Bt nt (Bt + 1) Dt 0 w' 1 (Or.inl rfl) none 0 0 (T1.out.below hb) T2.out
                have M3 : Hid (∀ w', Below wr.heap.size wr w' → Calls Tryd.prog 23 #[.slice none 0 0, .map (some Bt), .int .i64 0, .map (some (Bt + 1)), .int .i64 0, .int .u8 1, .int .u8 2, .slice none 0 0] w' (AnsF IsNaN w')) := fun w' hb => e5_nan none 0 0 Bt nt (Bt + 1) Dt 0 w' 2 (Or.inr rfl) none 0 0 (T1.out.below hb) T2.out
                have S2 : Hid (∀ x, IsNaN x → ∀ w', Calls Tryd.prog 19 #[.float .f64 x, .float .f64 (nanAt wr 0 0)] w' (AnsT w')) := fun x hx w' => same_nan x _ hx hnn w'
                have S3 : Hid (∀ x, IsNaN x → ∀ w', Calls Tryd.prog 19 #[.float .f64 x, .float .f64 (nanAt wr 0 0)] w' (AnsT w')) := fun x hx w' => same_nan x _ hx hnn w'
                clear T1 T2
                go_wp2_with fail
                refine Calls.mono (M1.out _ _ _ (((Below.refl _ _).alloc (Nat.le_refl _) _).drew) (new_cell wr #[.string p] 9 0) (by show wr.heap.size < (wr.alloc _).heap.size; rw [Deep.nblk_alloc]; omega)) ?_
                rintro e w4 ⟨x, rfl, hx, hb⟩
                have B4 : Hid (Below wr.heap.size wr w4) := (((Below.refl _ _).alloc (Nat.le_refl _) _).drew).trans (hb.mono (((Below.refl wr.heap.size wr).alloc (Nat.le_refl _) _).drew).size)
                have X4 : Hid _ := hx
                clear hb hx M1
                go_wp2_with fail
                refine Calls.mono (S1.out _ X4.out _) ?_
                rintro e w' ⟨rfl, hw'⟩
                obtain rfl := hw'.symm
                clear S1 X4
                go_wp2_with fail
                refine Calls.mono (M2.out _ B4.out) ?_
                rintro e w5 ⟨x, rfl, hx, hb⟩
                have B5 : Hid (Below wr.heap.size wr w5) := B4.out.trans (hb.mono B4.out.size)
                have X5 : Hid _ := hx
                clear hb hx M2 B4
                go_wp2_with fail
                refine Calls.mono (S2.out _ X5.out _) ?_
                rintro e w' ⟨rfl, hw'⟩
                obtain rfl := hw'.symm
                clear S2 X5
                go_wp2_with fail
                refine Calls.mono (M3.out _ B5.out) ?_
                rintro e w6 ⟨x, rfl, hx, hb⟩
                have B6 : Hid (Below wr.heap.size wr w6) := B5.out.trans (hb.mono B5.out.size)
                have X6 : Hid _ := hx
                clear hb hx M3 B5
                go_wp2_with fail
                refine Calls.mono (S3.out _ X6.out _) ?_
                rintro e w' ⟨rfl, hw'⟩
                obtain rfl := hw'.symm
                clear S3 X6
                go_wp2_with fail
                refine Calls.mono (E3.out _ B6.out) ?_
                rintro e w7 ⟨rfl, hb⟩
                have B7 : Hid (Below wr.heap.size wr w7) := B6.out.trans (hb.mono B6.out.size)
                clear hb E3 B6
                go_wp2_with fail
                refine Calls.mono (E4.out _ B7.out) ?_
                rintro e w8 ⟨rfl, hb⟩
                have B8 : Hid (Below wr.heap.size wr w8) := B7.out.trans (hb.mono B7.out.size)
                clear hb E4 B7
                go_wp2_with fail
                go_ret
                exact ⟨rfl, HB.out.trans (B8.out.mono HB.out.size)⟩
              · obtain ⟨r1, sh1⟩ := share_ex (c : Int) c (by omega) (by omega) (by omega) (by omega)
                obtain ⟨r0, sh0⟩ := share_ex ((c : Int) - c) c (by omega) (by omega) (by omega) (by omega)
                obtain rfl := sh1.full rfl
                obtain rfl := sh0.zero (by omega)
                have M2 : Hid (∀ w', Below wr.heap.size wr w' → Calls Tryd.prog 23 #[.slice none 0 0, .map (some Bt), .int .i64 c, .map (some (Bt + 1)), .int .i64 0, .int .u8 1, .int .u8 1, .slice none 0 0] w' (AnsF (fun x => x = 4607182418800017408) w')) := fun w' hb => AnsV.ansF (zzestimate_any _ none 0 0 Bt nt Dt c (Bt + 1) 0 1 1 none 0 0 w' (T1.out.below hb) fun w S A hR => estimate_eq S A Bt nt Dt c 1 c _ w hR (by decide) (by decide) T2.out sh1.quo)
                have M3 : Hid (∀ w', Below wr.heap.size wr w' → Calls Tryd.prog 23 #[.slice none 0 0, .map (some Bt), .int .i64 c, .map (some (Bt + 1)), .int .i64 0, .int .u8 1, .int .u8 2, .slice none 0 0] w' (AnsF (fun x => x = 0) w')) := fun w' hb => AnsV.ansF (zzestimate_any _ none 0 0 Bt nt Dt c (Bt + 1) 0 1 2 none 0 0 w' (T1.out.below hb) fun w S A hR => estimate_ne S A Bt nt Dt c 1 c _ w hR (by decide) (by decide) T2.out sh0.quo (by omega) (by omega) (by omega))
                have S2 : Hid (∀ x, x = 4607182418800017408 → ∀ w', Calls Tryd.prog 19 #[.float .f64 x, .float .f64 4607182418800017408] w' (AnsT w')) := fun x hx w' => by subst hx; exact same_pos _ (by decide) (by decide) w'
                have S3 : Hid (∀ x, x = 0 → ∀ w', Calls Tryd.prog 19 #[.float .f64 x, .float .f64 0] w' (AnsT w')) := fun x hx w' => by subst hx; exact same_zero w'
                clear T1 T2 sh0 sh1
                go_wp2_with fail
                refine Calls.mono (M1.out _ _ _ (((Below.refl _ _).alloc (Nat.le_refl _) _).drew) (new_cell wr #[.string p] 9 0) (by show wr.heap.size < (wr.alloc _).heap.size; rw [Deep.nblk_alloc]; omega)) ?_
                rintro e w4 ⟨x, rfl, hx, hb⟩
                have B4 : Hid (Below wr.heap.size wr w4) := (((Below.refl _ _).alloc (Nat.le_refl _) _).drew).trans (hb.mono (((Below.refl wr.heap.size wr).alloc (Nat.le_refl _) _).drew).size)
                have X4 : Hid _ := hx
                clear hb hx M1
                go_wp2_with fail
                refine Calls.mono (S1.out _ X4.out _) ?_
                rintro e w' ⟨rfl, hw'⟩
                obtain rfl := hw'.symm
                clear S1 X4
                go_wp2_with fail
                refine Calls.mono (M2.out _ B4.out) ?_
                rintro e w5 ⟨x, rfl, hx, hb⟩
                have B5 : Hid (Below wr.heap.size wr w5) := B4.out.trans (hb.mono B4.out.size)
                have X5 : Hid _ := hx
                clear hb hx M2 B4
                go_wp2_with fail
                refine Calls.mono (S2.out _ X5.out _) ?_
                rintro e w' ⟨rfl, hw'⟩
                obtain rfl := hw'.symm
                clear S2 X5
                go_wp2_with fail
                refine Calls.mono (M3.out _ B5.out) ?_
                rintro e w6 ⟨x, rfl, hx, hb⟩
                have B6 : Hid (Below wr.heap.size wr w6) := B5.out.trans (hb.mono B5.out.size)
                have X6 : Hid _ := hx
                clear hb hx M3 B5
                go_wp2_with fail
                refine Calls.mono (S3.out _ X6.out _) ?_
                rintro e w' ⟨rfl, hw'⟩
                obtain rfl := hw'.symm
                clear S3 X6
                go_wp2_with fail
                refine Calls.mono (E3.out _ B6.out) ?_
                rintro e w7 ⟨rfl, hb⟩
                have B7 : Hid (Below wr.heap.size wr w7) := B6.out.trans (hb.mono B6.out.size)
                clear hb E3 B6
                go_wp2_with fail
                refine Calls.mono (E4.out _ B7.out) ?_
                rintro e w8 ⟨rfl, hb⟩
                have B8 : Hid (Below wr.heap.size wr w8) := B7.out.trans (hb.mono B7.out.size)
                clear hb E4 B7
                go_wp2_with fail
                go_ret
                exact ⟨rfl, HB.out.trans (B8.out.mono HB.out.size)⟩
            · obtain ⟨r, hr1, hr2, hr3⟩ := share5 (h : Int) (q : Int) (by omega) (by omega) (by omega) (by omega)
              have M1 : Hid (∀ w' Pb cap, Below wr.heap.size wr w' → w'.cell? ⟨Pb, 0, none⟩ = some (.string p) → Pb < w'.heap.size → Calls Tryd.prog 23 #[.slice none 0 0, .map (some Bt), .int .i64 c, .map (some (Bt + 1)), .int .i64 q, .int .u8 2, .int .u8 0, .slice (some ⟨Pb, 0, none⟩) 1 cap] w' (AnsF (fun x => x = r) w')) := fun w' Pb cap hb hp hl =>
                e5_word none 0 0 Bt (Bt + 1) nw Dw c q p w' h r Pb cap (U1.out.below hb) U2.out hps hp hl hr1 hr2
              have S1 : Hid (∀ x, x = r → ∀ w', Calls Tryd.prog 19 #[.float .f64 x, .float .f64 r] w' (AnsT w')) := fun x hx w' => by subst hx; exact same_share _ hr3 w'
              have hdd := fun (w : World) => run_float_arith (P := Tryd.prog) w .quo 40 .f64 _ _ _ hr1
              clear U1 U2 hr1 hr2 hr3
              rcases Nat.eq_zero_or_pos c with rfl | hc
              · have M2 : Hid (∀ w', Below wr.heap.size wr w' → Calls Tryd.prog 23 #[.slice none 0 0, .map (some Bt), .int .i64 0, .map (some (Bt + 1)), .int .i64 q, .int .u8 1, .int .u8 1, .slice none 0 0] w' (AnsF IsNaN w')) := fun w' hb => e5_nan none 0 0 Bt nt (Bt + 1) Dt q w' 1 (Or.inl rfl) none 0 0 (T1.out.below hb) T2.out
                have M3 : Hid (∀ w', Below wr.heap.size wr w' → Calls Tryd.prog 23 #[.slice none 0 0, .map (some Bt), .int .i64 0, .map (some (Bt + 1)), .int .i64 q, .int .u8 1, .int .u8 2, .slice none 0 0] w' (AnsF IsNaN w')) := fun w' hb => e5_nan none 0 0 Bt nt (Bt + 1) Dt q w' 2 (Or.inr rfl) none 0 0 (T1.out.below hb) T2.out
                have S2 : Hid (∀ x, IsNaN x → ∀ w', Calls Tryd.prog 19 #[.float .f64 x, .float .f64 (nanAt wr 0 0)] w' (AnsT w')) := fun x hx w' => same_nan x _ hx hnn w'
                have S3 : Hid (∀ x, IsNaN x → ∀ w', Calls Tryd.prog 19 #[.float .f64 x, .float .f64 (nanAt wr 0 0)] w' (AnsT w')) := fun x hx w' => same_nan x _ hx hnn w'
                clear T1 T2
                go_wp2_with fail
                refine Calls.mono (M1.out _ _ _ (((Below.refl _ _).alloc (Nat.le_refl _) _).drew) (new_cell wr #[.string p] 9 0) (by show wr.heap.size < (wr.alloc _).heap.size; rw [Deep.nblk_alloc]; omega)) ?_
                rintro e w4 ⟨x, rfl, hx, hb⟩
                have B4 : Hid (Below wr.heap.size wr w4) := (((Below.refl _ _).alloc (Nat.le_refl _) _).drew).trans (hb.mono (((Below.refl wr.heap.size wr).alloc (Nat.le_refl _) _).drew).size)
                have X4 : Hid _ := hx
                clear hb hx M1
                go_wp2_with fail
                refine Calls.mono (S1.out _ X4.out _) ?_
                rintro e w' ⟨rfl, hw'⟩
                obtain rfl := hw'.symm
                clear S1 X4
                go_wp2_with fail
                refine Calls.mono (M2.out _ B4.out) ?_
                rintro e w5 ⟨x, rfl, hx, hb⟩
                have B5 : Hid (Below wr.heap.size wr w5) := B4.out.trans (hb.mono B4.out.size)
                have X5 : Hid _ := hx
                clear hb hx M2 B4
                go_wp2_with fail
                refine Calls.mono (S2.out _ X5.out _) ?_
                rintro e w' ⟨rfl, hw'⟩
                obtain rfl := hw'.symm
                clear S2 X5
                go_wp2_with fail
                refine Calls.mono (M3.out _ B5.out) ?_
                rintro e w6 ⟨x, rfl, hx, hb⟩
                have B6 : Hid (Below wr.heap.size wr w6) := B5.out.trans (hb.mono B5.out.size)
                have X6 : Hid _ := hx
                clear hb hx M3 B5
                go_wp2_with fail
                refine Calls.mono (S3.out _ X6.out _) ?_
                rintro e w' ⟨rfl, hw'⟩
                obtain rfl := hw'.symm
                clear S3 X6
                go_wp2_with fail
                refine Calls.mono (E3.out _ B6.out) ?_
                rintro e w7 ⟨rfl, hb⟩
                have B7 : Hid (Below wr.heap.size wr w7) := B6.out.trans (hb.mono B6.out.size)
                clear hb E3 B6
                go_wp2_with fail
                refine Calls.mono (E4.out _ B7.out) ?_
                rintro e w8 ⟨rfl, hb⟩
                have B8 : Hid (Below wr.heap.size wr w8) := B7.out.trans (hb.mono B7.out.size)
                clear hb E4 B7
                go_wp2_with fail
                go_ret
                exact ⟨rfl, HB.out.trans (B8.out.mono HB.out.size)⟩
              · obtain ⟨r1, sh1⟩ := share_ex (c : Int) c (by omega) (by omega) (by omega) (by omega)
                obtain ⟨r0, sh0⟩ := share_ex ((c : Int) - c) c (by omega) (by omega) (by omega) (by omega)
                obtain rfl := sh1.full rfl
                obtain rfl := sh0.zero (by omega)
                have M2 : Hid (∀ w', Below wr.heap.size wr w' → Calls Tryd.prog 23 #[.slice none 0 0, .map (some Bt), .int .i64 c, .map (some (Bt + 1)), .int .i64 q, .int .u8 1, .int .u8 1, .slice none 0 0] w' (AnsF (fun x => x = 4607182418800017408) w')) := fun w' hb => AnsV.ansF (zzestimate_any _ none 0 0 Bt nt Dt c (Bt + 1) q 1 1 none 0 0 w' (T1.out.below hb) fun w S A hR => estimate_eq S A Bt nt Dt c 1 c _ w hR (by decide) (by decide) T2.out sh1.quo)
                have M3 : Hid (∀ w', Below wr.heap.size wr w' → Calls Tryd.prog 23 #[.slice none 0 0, .map (some Bt), .int .i64 c, .map (some (Bt + 1)), .int .i64 q, .int .u8 1, .int .u8 2, .slice none 0 0] w' (AnsF (fun x => x = 0) w')) := fun w' hb => AnsV.ansF (zzestimate_any _ none 0 0 Bt nt Dt c (Bt + 1) q 1 2 none 0 0 w' (T1.out.below hb) fun w S A hR => estimate_ne S A Bt nt Dt c 1 c _ w hR (by decide) (by decide) T2.out sh0.quo (by omega) (by omega) (by omega))
                have S2 : Hid (∀ x, x = 4607182418800017408 → ∀ w', Calls Tryd.prog 19 #[.float .f64 x, .float .f64 4607182418800017408] w' (AnsT w')) := fun x hx w' => by subst hx; exact same_pos _ (by decide) (by decide) w'
                have S3 : Hid (∀ x, x = 0 → ∀ w', Calls Tryd.prog 19 #[.float .f64 x, .float .f64 0] w' (AnsT w')) := fun x hx w' => by subst hx; exact same_zero w'
                clear T1 T2 sh0 sh1
                go_wp2_with fail
                refine Calls.mono (M1.out _ _ _ (((Below.refl _ _).alloc (Nat.le_refl _) _).drew) (new_cell wr #[.string p] 9 0) (by show wr.heap.size < (wr.alloc _).heap.size; rw [Deep.nblk_alloc]; omega)) ?_
                rintro e w4 ⟨x, rfl, hx, hb⟩
                have B4 : Hid (Below wr.heap.size wr w4) := (((Below.refl _ _).alloc (Nat.le_refl _) _).drew).trans (hb.mono (((Below.refl wr.heap.size wr).alloc (Nat.le_refl _) _).drew).size)
                have X4 : Hid _ := hx
                clear hb hx M1
                go_wp2_with fail
                refine Calls.mono (S1.out _ X4.out _) ?_
                rintro e w' ⟨rfl, hw'⟩
                obtain rfl := hw'.symm
                clear S1 X4
                go_wp2_with fail
                refine Calls.mono (M2.out _ B4.out) ?_
                rintro e w5 ⟨x, rfl, hx, hb⟩
                have B5 : Hid (Below wr.heap.size wr w5) := B4.out.trans (hb.mono B4.out.size)
                have X5 : Hid _ := hx
                clear hb hx M2 B4
                go_wp2_with fail
                refine Calls.mono (S2.out _ X5.out _) ?_
                rintro e w' ⟨rfl, hw'⟩
                obtain rfl := hw'.symm
                clear S2 X5
                go_wp2_with fail
                refine Calls.mono (M3.out _ B5.out) ?_
                rintro e w6 ⟨x, rfl, hx, hb⟩
                have B6 : Hid (Below wr.heap.size wr w6) := B5.out.trans (hb.mono B5.out.size)
                have X6 : Hid _ := hx
                clear hb hx M3 B5
                go_wp2_with fail
                refine Calls.mono (S3.out _ X6.out _) ?_
                rintro e w' ⟨rfl, hw'⟩
                obtain rfl := hw'.symm
                clear S3 X6
                go_wp2_with fail
                refine Calls.mono (E3.out _ B6.out) ?_
                rintro e w7 ⟨rfl, hb⟩
                have B7 : Hid (Below wr.heap.size wr w7) := B6.out.trans (hb.mono B6.out.size)
                clear hb E3 B6
                go_wp2_with fail
                refine Calls.mono (E4.out _ B7.out) ?_
                rintro e w8 ⟨rfl, hb⟩
                have B8 : Hid (Below wr.heap.size wr w8) := B7.out.trans (hb.mono B7.out.size)
                clear hb E4 B7
                go_wp2_with fail
                go_ret
                exact ⟨rfl, HB.out.trans (B8.out.mono HB.out.size)⟩
end Go.Proofs.Qxb6603875aDoor
