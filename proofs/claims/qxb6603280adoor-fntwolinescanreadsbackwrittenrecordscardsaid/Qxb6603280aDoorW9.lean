/-
  The law's own walk.
-/
import Derived.Test.Qxb6603280aDoorW8
import Derived.Test.Qxb6603280aDoorApp
namespace Go.Proofs.Qxb6603280aDoor
open Go.RowKit
set_option linter.unusedVariables false

/-- what the law owes: true, and nothing old has turned -/
def AnsL (w : World) : Ending → World → Prop := fun e w' => e = .returned (.bool true) ∧ Below w.heap.size w w'

/-- a line's end -/
abbrev eolB (crlf : Bool) : ByteArray := if crlf then ⟨#[13, 10]⟩ else ⟨#[10]⟩

theorem sumTo_mono (h b e : Nat → ByteArray) (len k : Nat) (hk : k < len) : sumTo h b e k + (48 + (h k).size + (b k).size + (e k).size) ≤ sumTo h b e len := by
  induction len with
  | zero => omega
  | succ n ih =>
    rcases Nat.lt_succ_iff_lt_or_eq.1 hk with h1 | rfl
    · have := ih h1; simp only [sumTo]; omega
    · simp only [sumTo]; omega

theorem write_fits {h b e : Nat → ByteArray} {len k : Nat} {crlf : Bool} {t : Int} (ht : t = sumTo h b e len) (ht1 : t ≤ 1048576) (hk : k < len) :
    (textTo crlf h b e k).length + (h k).size + (b k).size + (e k).size + 100 ≤ 4194304 := by
  have := sumTo_mono h b e len k hk
  have := textTo_length crlf h b e k
  omega

theorem text_fits {h b e : Nat → ByteArray} {len : Nat} {crlf : Bool} {t : Int} (ht : t = sumTo h b e len) (ht1 : t ≤ 1048576) : (⟨(textTo crlf h b e len).toArray⟩ : ByteArray).size ≤ 1048576 := by
  have := textTo_length crlf h b e len
  have e : (⟨(textTo crlf h b e len).toArray⟩ : ByteArray).size = (textTo crlf h b e len).length := by rw [size_list]
  omega

theorem rec_cells {w1 wx : World} {bl o : Nat} {h b e : ByteArray} (hc : w1.cell? ⟨bl, o, none⟩ = some (.string h) ∧ w1.cell? ⟨bl, o + 1, none⟩ = some (.string b) ∧ w1.cell? ⟨bl, o + 2, none⟩ = some (.string e)) (hx : Below w1.heap.size w1 wx) (hb : bl < w1.heap.size) :
    wx.cell? ⟨bl, o, none⟩ = some (.string h) ∧ wx.cell? ⟨bl, o + 1, none⟩ = some (.string b) ∧ wx.cell? ⟨bl, o + 2, none⟩ = some (.string e) :=
  ⟨(hx.cell (p := ⟨bl, o, none⟩) hb).trans hc.1, (hx.cell (p := ⟨bl, o + 1, none⟩) hb).trans hc.2.1, (hx.cell (p := ⟨bl, o + 2, none⟩) hb).trans hc.2.2⟩

theorem add_clock (b cB : ByteArray) (h : cB = ⟨(123 :: (b.data.toList ++ [125])).toArray⟩) (hb : b.size ≤ 1048576) :
    ∃ xB : ByteArray, (∀ wx, (Op.stringOp .add ⟨#[123]⟩ b).run Tryd.prog wx = .ok (.string xB) wx) ∧ (∀ wx, (Op.stringOp .add xB ⟨#[125]⟩).run Tryd.prog wx = .ok (.string cB) wx) := by
  refine ⟨⟨#[123]⟩ ++ b, fun wx => run_string_add_sum wx _ _ (by show 1 + b.size ≤ _; omega), fun wx => ?_⟩
  rw [run_string_add_sum wx _ _ (by rw [ByteArray.size_append]; show 1 + b.size + 1 ≤ _; omega)]
  congr 2
  rw [h]
  apply ba_ext
  simp [ByteArray.data_append]

theorem state_box {w1 w3 ws2 : World} {sb B : Nat} {T : ByteArray} {crlf : Bool} {p l rl : Int} {rh rc re : ByteArray} (cs : Array Value) (st : St w3 ws2 sb T crlf p l rl rh rc re) (hd : Below B w1 ws2) (hBs : B ≤ w1.heap.size) :
    St w3 (ws2.alloc (.cells cs 34)) sb T crlf p l rl rh rc re ∧ Below B w1 (ws2.alloc (.cells cs 34)) ∧
    (ws2.alloc (.cells cs 34)).cell? ⟨ws2.heap.size, 5, none⟩ = cs[5]? ∧ (ws2.alloc (.cells cs 34)).cell? ⟨ws2.heap.size, 6, none⟩ = cs[6]? ∧ (ws2.alloc (.cells cs 34)).cell? ⟨ws2.heap.size, 7, none⟩ = cs[7]? ∧ (ws2.alloc (.cells cs 34)).cell? ⟨ws2.heap.size, 8, none⟩ = cs[8]? ∧
    (ws2.alloc (.cells cs 34)).cell? ⟨ws2.heap.size, 11, none⟩ = cs[11]? ∧ (ws2.alloc (.cells cs 34)).cell? ⟨ws2.heap.size, 12, none⟩ = cs[12]? ∧ (ws2.alloc (.cells cs 34)).cell? ⟨ws2.heap.size, 13, none⟩ = cs[13]? := by
  have hB : B ≤ ws2.heap.size := Nat.le_trans hBs hd.size
  refine ⟨st.to ((Below.refl _ _).alloc (Nat.le_refl _) _), hd.alloc hB _, ?_, ?_, ?_, ?_, ?_, ?_, ?_⟩
  all_goals simp

set_option maxRecDepth 1000000 in
set_option maxHeartbeats 1000000 in
theorem law_lf (ao : Option Addr) (len cap : Nat) (h b e : Nat → ByteArray) (w : World) (hl : len ≤ maxLen) (hn : ao = none → len = 0 ∧ cap = 0) (R : Recs w ao len h b e) (hE : Env w) (h3 : 3 ≤ w.heap.size) :
    Calls Tryd.prog 3 #[.slice ao len cap, .bool false] w (AnsL w) := by
  have hl' := hl
  unfold maxLen at hl'
  obtain ⟨i5, hi5, hz50, hz51, hz52⟩ := info_parts Tryd.info5
  go_enter Tryd.func3, Tryd.ntmps3
  go_wp2_with (first
    | (go_at_call 4; go_must (refine (bytes_any ao len cap h b e _ _ hl R).mono ?_); rintro e' w' ⟨v, rfl, hw', _⟩; obtain rfl := hw'.symm)
    | (go_at_call 5; go_must (refine (entriesBytes_any ao len cap h b e _ hl R).mono ?_); rintro e' w' ⟨t, rfl, hw', ht0, ht⟩; obtain rfl := hw'.symm; have HT : Hid (t ≤ 1048576 → t = sumTo h b e len) := ht; clear ht)
    | (go_at_call 6; go_must (refine (writable_any ao len cap h b e _ hl R).mono ?_); rintro e' w' ⟨vw, rfl, hw', hvw⟩; obtain rfl := hw'.symm; have HW : Hid (vw = true → Writable len h b e) := hvw; clear hvw)
    | (go_at_call 7; go_must (refine (clone_any ao len cap h b e _ (by omega) hn R).mono ?_); rintro e' w1 ⟨ao1, cap1, rfl, R1, hb1⟩)
    | (at_make; go_must (refine wpList_make_own _ rfl _ _ 27 rfl w1.heap.size 5 i5 (.int .u8 0) 1 Tryd.underlying27 hi5 hz50 hz51 _ _ t t.toNat rfl rfl (by omega) (by rw [hz52]; omega) (by unfold maxLen; omega) (Nat.le_refl _) ?_); intro w2 hown2 hgrow2; have hb2 : Below w1.heap.size w1 w2 := (Below.refl _ _).grown hgrow2 (Nat.le_refl _) (fun k hk => by cases hk); have own2 : Own w2 w1.heap.size (.slice (some ⟨w1.heap.size, 0, none⟩) 0 t.toNat) [] := hown2; clear hown2 hgrow2))
  · go_ret; exact ⟨rfl, Below.refl _ _⟩
  · go_ret; exact ⟨rfl, Below.refl _ _⟩
  · go_ret; exact ⟨rfl, Below.refl _ _⟩
  · go_ret; exact ⟨rfl, Below.refl _ _⟩
  have hvw : vw = true := by simpa using ‹(!vw) = false›
  have HWr : Hid (Writable len h b e) := HW.out hvw
  have htS : Hid (t = sumTo h b e len) := HT.out (by omega)
  clear HW HT hi5 hz50 hz51 hz52 R hn
  go_loopw [7, 8] (fun v i wr => ∃ k : Nat, k ≤ len ∧ i = .int .i64 k ∧ Own wr w1.heap.size v (textTo false h b e k) ∧ Below w1.heap.size w1 wr) (fun _ i _ => len - (intOf i).toNat)
  case atStart => exact ⟨0, Nat.zero_le _, rfl, own2, hb2⟩
  case round =>
    obtain ⟨k, hk, rfl, own, hbr⟩ := hrel
    by_cases hlt : k < len
    · have hsz : (textTo false h b e k).length + (h k).size + (b k).size + (e k).size + 100 ≤ 4194304 := write_fits htS.out (by omega) hlt
      obtain ⟨bl, off, rfl, hblt, hc⟩ := R1.at_ (by omega)
      have hcx := fun wx (hx : Below w1.heap.size w1 wx) => rec_cells (hc k hlt) hx hblt
      have cH := (hcx _ hbr).1
      have hBs := hbr.size
      have HC : Hid (∀ wx, Below w1.heap.size w1 wx → wx.cell? ⟨bl, off + k * 3, none⟩ = some (.string (h k)) ∧ wx.cell? ⟨bl, off + k * 3 + 1, none⟩ = some (.string (b k)) ∧ wx.cell? ⟨bl, off + k * 3 + 2, none⟩ = some (.string (e k))) := hcx
      clear hc hcx
      generalize htx : textTo false h b e k = tx at *
      have HTX : Hid (textTo false h b e k = tx) := htx
      clear htx
      go_wp2_with (first
        | (at_builtin; refine wp_app rfl (.tmp 39) (.tmp 44) rfl w1.heap.size _ tx rfl own (h k) rfl (by omega) hBs ?_; intro v1 u1 x1 X1 e1 o1 g1; have d1 := hbr.trans g1; have s1 := d1.size)
        | (at_builtin; refine wp_app rfl (.tmp 46) (.const (.string ⟨#[32, 123]⟩)) rfl w1.heap.size v1 x1 rfl o1 ⟨#[32, 123]⟩ rfl (by rw [e1]; show _ + 2 ≤ _; omega) s1 ?_; intro v2 u2 x2 X2 e2 o2 g2; have d2 := d1.trans g2; have s2 := d2.size; have cB := (HC.out _ d2).2.1; have e2' : x2.length = tx.length + (h k).size + 2 := by rw [e2, e1]; rfl)
        | (at_builtin; refine wp_app rfl (.tmp 48) (.tmp 53) rfl w1.heap.size v2 x2 rfl o2 (b k) rfl (by omega) s2 ?_; intro v3 u3 x3 X3 e3 o3 g3; have d3 := d2.trans g3; have s3 := d3.size)
        | (at_builtin; refine wp_app1 rfl (.tmp 55) (.tmp 56) rfl w1.heap.size v3 x3 rfl (o3.alloc _) 125 u3.heap.size 1 rfl (by simp) (by omega) (by simp; omega) ?_; intro v4 u4 x4 X4 e4 o4 g4; have d4 := (d3.alloc s3 _).trans g4; have s4 := d4.size)
        | (at_builtin; refine wp_app rfl (.tmp 58) (.tmp 59) rfl w1.heap.size v4 x4 rfl o4 ⟨#[10]⟩ rfl (by show _ + 1 ≤ _; omega) s4 ?_; intro v5 u5 x5 X5 e5 o5 g5; have d5 := d4.trans g5; have s5 := d5.size; have cE := (HC.out _ d5).2.2; have e5' : x5.length = x4.length + 1 := e5)
        | (at_builtin; refine wp_app rfl (.tmp 61) (.tmp 66) rfl w1.heap.size v5 x5 rfl o5 (e k) rfl (by omega) s5 ?_; intro v6 u6 x6 X6 e6 o6 g6; have d6 := d5.trans g6; have s6 := d6.size)
        | (at_builtin; refine wp_app rfl (.tmp 68) (.tmp 69) rfl w1.heap.size v6 x6 rfl o6 ⟨#[10]⟩ rfl (by show _ + 1 ≤ _; omega) s6 ?_; intro v7 u7 x7 X7 e7 o7 g7; have d7 := d6.trans g7)
        )
      have HF : Hid (x7 = textTo false h b e (k + 1)) := by
        show x7 = textTo false h b e (k + 1)
        rw [textTo, HTX.out, ← X7.out, ← X6.out, ← X5.out, ← X4.out, ← X3.out, ← X2.out, ← X1.out]
        simp [recL, clockL, crL]
      clear X1 X2 X3 X4 X5 X6 X7 e1 e2 e2' e3 e4 e5 e5' e6 e7
      go_roundw
      case rel => exact ⟨k + 1, by omega, by go_num, (by rw [← HF.out]; exact o7 : Own _ w1.heap.size v7 (textTo false h b e (k + 1)))⟩
      case measure => simp [intOf]; omega
    · obtain rfl : k = len := by omega
      have hconv := own_text own
      have hTs : (⟨(textTo false h b e k).toArray⟩ : ByteArray).size ≤ 1048576 := text_fits htS.out (by omega)
      obtain ⟨T, hT⟩ : ∃ T : ByteArray, T = ⟨(textTo false h b e k).toArray⟩ := ⟨_, rfl⟩
      have HT : Hid (T.data.toList = textTo false h b e k) := by rw [hT]; rfl
      rw [← hT] at hconv hTs
      clear hT own own2
      go_wp2_with (go_at_call 8; go_must (refine (new_any T _ _).mono ?_); rintro e' w' ⟨rfl, hw'⟩; subst hw')
      have hsb3 : 3 ≤ wr.heap.size := by have := hbr.size; have := hb1.size; omega
      have hsb1 : w1.heap.size ≤ wr.heap.size := hbr.size
      have hd3 : Below w1.heap.size w1 (wr.alloc (.cells (scan T false 0 1 0 ⟨#[]⟩ ⟨#[]⟩ ⟨#[]⟩) 43)) := hbr.alloc hsb1 _
      have st0 : St (wr.alloc (.cells (scan T false 0 1 0 ⟨#[]⟩ ⟨#[]⟩ ⟨#[]⟩) 43)) (wr.alloc (.cells (scan T false 0 1 0 ⟨#[]⟩ ⟨#[]⟩ ⟨#[]⟩) 43)) wr.heap.size T false 0 1 0 ⟨#[]⟩ ⟨#[]⟩ ⟨#[]⟩ :=
        ⟨heap_alloc_new _ _, (hE.below hb1 h3).below hd3 (by have := hb1.size; omega), Below.refl _ _, hsb3⟩
      generalize wr.alloc (.cells (scan T false 0 1 0 ⟨#[]⟩ ⟨#[]⟩ ⟨#[]⟩) 43) = w3 at *
      generalize wr.heap.size = sb at *
      clear hbr
      go_loopw [11, 12] (fun j _ ws => ∃ (n : Nat) (rl : Int) (rh rc re : ByteArray), n ≤ k ∧ j = .int .i64 n ∧ St w3 ws sb T false ((textTo false h b e n).length : Int) (1 + 2 * (n : Int)) rl rh rc re) (fun j _ _ => k - (intOf j).toNat)
      case atStart => exact ⟨0, 0, ⟨#[]⟩, ⟨#[]⟩, ⟨#[]⟩, Nat.zero_le _, rfl, st0⟩
      case round =>
        obtain ⟨n, rl, rh, rc, re, hn, rfl, st⟩ := hrel
        by_cases hlt : n < k
        · obtain ⟨bl, off, rfl, hblt, hc⟩ := R1.at_ (by omega)
          obtain ⟨hh, hbn, hen⟩ := HWr.out n hlt
          obtain ⟨post, hpost⟩ := textTo_split false h b e k n hlt
          obtain ⟨cB, hcB⟩ : ∃ cB : ByteArray, cB = ⟨(123 :: ((b n).data.toList ++ [125])).toArray⟩ := ⟨_, rfl⟩
          have HCB : Hid (cB = ⟨(123 :: ((b n).data.toList ++ [125])).toArray⟩) := hcB
          have HW : Hid _ := wrap_rec sb T (h n) (b n) (e n) cB false (textTo false h b e n) post (1 + 2 * (n : Int)) rl rh rc re _ st.heap st.env st.three (by rw [HT.out, hpost]) hTs (by rw [hcB]) hh hbn hen (by omega) (by omega)
          have hP1 : ((textTo false h b e n ++ recL false (h n).data.toList (b n).data.toList (e n).data.toList).length : Int) = ((textTo false h b e (n + 1)).length : Int) := rfl
          rw [hP1] at HW
          clear hpost hcB hP1
          generalize hP : ((textTo false h b e (n + 1)).length : Int) = P1 at HW
          have HP : Hid (((textTo false h b e (n + 1)).length : Int) = P1) := hP
          clear hP
          go_wp2_with fail
          refine Calls.mono HW.out ?_
          rintro e' ws1 ⟨rfl, hp1, hb4⟩
          have st1 : St w3 ws1 sb T false _ _ _ _ _ _ := ⟨hp1, st.env.below hb4 st.three, st.below.trans hb4, st.three⟩
          clear HW hp1 hb4 st
          go_wp2_with fail
          refine Calls.mono (state_any sb T false _ _ _ _ _ _ _ st1.heap) ?_
          rintro e' ws2 ⟨rfl, hb5⟩
          have st2 := st1.to hb5
          have hd5 := hd3.trans (st2.below.mono hsb1)
          clear st1 hb5
          go_wp2_with fail
          obtain ⟨st4, hd6, q5, q6, q7, q8, q11, q12, q13⟩ := state_box (state T false P1 (1 + 2 * (n : Int) + 2) (1 + 2 * (n : Int)) (h n) cB (e n)) st2 hd5 (Nat.le_refl _)
          generalize ws2.alloc (.cells (state T false P1 (1 + 2 * (n : Int) + 2) (1 + 2 * (n : Int)) (h n) cB (e n)) 34) = w4 at *
          obtain ⟨r0, r1, r2⟩ := rec_cells (hc n hlt) hd6 hblt
          have hw1 : IntKind.i64.wrap (2 * (n : Int)) = 2 * (n : Int) := wrap_small _ (by omega) (by omega)
          have hw2 : IntKind.i64.wrap (1 + 2 * (n : Int)) = 1 + 2 * (n : Int) := wrap_small _ (by omega) (by omega)
          obtain ⟨xB, ha1, ha2⟩ := add_clock (b n) cB HCB.out (by have := sumTo_mono h b e k n hlt; have := htS.out; omega)
          clear hc
          go_quiet (fail)
          go_wp2
          have hfin := st4.to (below_drewN (Below.refl _ _) nq)
          rw [← HP.out, show (1 : Int) + 2 * (n : Int) + 2 = 1 + 2 * ((n + 1 : Nat) : Int) by omega] at hfin
          go_roundw
          case rel => exact ⟨n + 1, _, _, _, _, by omega, by go_num, hfin⟩
          case measure => simp [intOf]; omega
        · obtain rfl : n = k := by omega
          have hTk : ((textTo false h b e n).length : Int) = (T.size : Int) := by rw [size_list T, HT.out]
          rw [hTk] at st
          have HW : Hid _ := wrap_end sb T false _ _ _ _ _ _ st.heap
          go_wp2_with fail
          refine Calls.mono HW.out ?_
          rintro e' ws1 ⟨rfl, hb4⟩
          have st1 := st.to hb4
          clear HW hb4 st hTk
          go_wp2_with fail
          refine Calls.mono (state_any sb T false _ _ _ _ _ _ _ st1.heap) ?_
          rintro e' ws2 ⟨rfl, hb5⟩
          have st2 := st1.to hb5
          have hd5 := hd3.trans (st2.below.mono hsb1)
          clear st1 hb5 st2
          have hw1 : IntKind.i64.wrap (2 * (n : Int)) = 2 * (n : Int) := wrap_small _ (by omega) (by omega)
          have hw2 : IntKind.i64.wrap (1 + 2 * (n : Int)) = 1 + 2 * (n : Int) := wrap_small _ (by omega) (by omega)
          go_wp2
          go_ret
          exact ⟨rfl, hb1.trans ((hd5.alloc (Nat.le_trans (Nat.le_refl _) hd5.size) _).mono hb1.size)⟩

end Go.Proofs.Qxb6603280aDoor
