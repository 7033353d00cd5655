/-
  (*twoLineScanner).next, at a record and at the text's end.
-/
import Derived.Test.Qxb6603280aDoorPlain
namespace Go.Proofs.Qxb6603280aDoor
open Go.RowKit
set_option linter.unusedVariables false

/-- the scanner's cells -/
abbrev scan (T : ByteArray) (crlf : Bool) (p l rl : Int) (rh rc re : ByteArray) : Array Value :=
  #[.string T, .bool crlf, .int .i64 p, .int .i64 l, .string ⟨#[]⟩, .int .i64 rl, .string rh, .string rc, .string re, .slice none 0 0, .bool false, .int .i64 0, .int .i64 0, .string ⟨#[]⟩]

/-- what the walks ask of the world beside the scanner -/
structure Env (w : World) : Prop where
  m : ∃ m, w.cell? ⟨0, 0, none⟩ = some (.int .i64 m)
  tabs : Lib.Utf8Tabs 1 2 w

theorem Env.below {B : Nat} {w w' : World} (h : Env w) (hb : Below B w w') (hB : 3 ≤ B) : Env w' where
  m := by obtain ⟨m, hm⟩ := h.m; exact ⟨m, (hb.cell (p := ⟨0, 0, none⟩) (show 0 < B by omega)).trans hm⟩
  tabs := tabs_below h.tabs hb hB

theorem scan_cell {w : World} {sb : Nat} {cs : Array Value} {t : TypeId} {fr : Nat × Nat} (h : w.heap[sb]? = some (.cells cs t fr)) (i : Nat) (v : Value) (hi : cs[i]? = some v) : w.cell? ⟨sb, i, none⟩ = some v := by
  simp [World.cell?, h, hi]
theorem scan_frozen {w : World} {sb : Nat} {cs : Array Value} {t : TypeId} (h : w.heap[sb]? = some (.cells cs t (0, 0))) (i : Nat) : w.frozen? ⟨sb, i, none⟩ = false := by
  simp [World.frozen?, h]

/-- the scanner as it stands in w, and that nothing below it has turned since w0 -/
structure St (w0 w : World) (sb : Nat) (T : ByteArray) (crlf : Bool) (p l rl : Int) (rh rc re : ByteArray) : Prop where
  heap : w.heap[sb]? = some (.cells (scan T crlf p l rl rh rc re) 43 (0, 0))
  env : Env w
  below : Below sb w0 w
  three : 3 ≤ sb

theorem St.to {w0 w w' : World} {sb : Nat} {T : ByteArray} {crlf : Bool} {p l rl : Int} {rh rc re : ByteArray} (h : St w0 w sb T crlf p l rl rh rc re) (hb : Below w.heap.size w w') : St w0 w' sb T crlf p l rl rh rc re := by
  have hsb : sb < w.heap.size := (Array.getElem?_eq_some_iff.1 h.heap).1
  exact ⟨(hb.block sb hsb).trans h.heap, h.env.below hb (by have := h.three; omega), h.below.trans (hb.mono (by omega)), h.three⟩

theorem St.c {w0 w : World} {sb : Nat} {T : ByteArray} {crlf : Bool} {p l rl : Int} {rh rc re : ByteArray} (h : St w0 w sb T crlf p l rl rh rc re) :
    w.cell? ⟨sb, 0, none⟩ = some (.string T) ∧ w.cell? ⟨sb, 1, none⟩ = some (.bool crlf) ∧ w.cell? ⟨sb, 2, none⟩ = some (.int .i64 p) ∧ w.cell? ⟨sb, 3, none⟩ = some (.int .i64 l) :=
  ⟨scan_cell h.heap 0 _ rfl, scan_cell h.heap 1 _ rfl, scan_cell h.heap 2 _ rfl, scan_cell h.heap 3 _ rfl⟩

theorem put_cell {w : World} {g i : Nat} {cur : Array Value} {t : TypeId} {fr : Nat × Nat} (v : Value) (h : w.heap[g]? = some (.cells cur t fr)) : (w.setCell ⟨g, i, none⟩ v).heap[g]? = some (.cells (cur.setIfInBounds i v) t fr) := by
  rw [setCell_eq_setRow w g i cur t fr v h]
  exact setRow_heap w g cur _ t fr h

theorem next_stores {w w5 : World} {sb : Nat} {T : ByteArray} {crlf : Bool} {p l rl q l' : Int} {rh rc re hB cB eB : ByteArray} (st : St w w5 sb T crlf p l rl rh rc re) :
    (((((((((w5.setCell ⟨sb, 4, none⟩ (.string ⟨#[]⟩)).setCell ⟨sb, 5, none⟩ (.int .i64 l)).setCell ⟨sb, 6, none⟩ (.string hB)).setCell ⟨sb, 7, none⟩ (.string cB)).setCell ⟨sb, 8, none⟩ (.string eB)).setCell ⟨sb, 9, none⟩ (.slice none 0 0)).setCell ⟨sb, 10, none⟩ (.bool false)).setCell ⟨sb, 2, none⟩ (.int .i64 q)).setCell ⟨sb, 3, none⟩ (.int .i64 l')).heap[sb]? = some (.cells (scan T crlf q l' l hB cB eB) 43 (0, 0)) ∧
    Below sb w (((((((((w5.setCell ⟨sb, 4, none⟩ (.string ⟨#[]⟩)).setCell ⟨sb, 5, none⟩ (.int .i64 l)).setCell ⟨sb, 6, none⟩ (.string hB)).setCell ⟨sb, 7, none⟩ (.string cB)).setCell ⟨sb, 8, none⟩ (.string eB)).setCell ⟨sb, 9, none⟩ (.slice none 0 0)).setCell ⟨sb, 10, none⟩ (.bool false)).setCell ⟨sb, 2, none⟩ (.int .i64 q)).setCell ⟨sb, 3, none⟩ (.int .i64 l')) := by
  refine ⟨?_, ?_⟩
  · have h1 := put_cell (i := 4) (.string ⟨#[]⟩) st.heap
    have h2 := put_cell (i := 5) (.int .i64 l) h1
    have h3 := put_cell (i := 6) (.string hB) h2
    have h4 := put_cell (i := 7) (.string cB) h3
    have h5 := put_cell (i := 8) (.string eB) h4
    have h6 := put_cell (i := 9) (.slice none 0 0) h5
    have h7 := put_cell (i := 10) (.bool false) h6
    have h8 := put_cell (i := 2) (.int .i64 q) h7
    have h9 := put_cell (i := 3) (.int .i64 l') h8
    rw [h9]
    simp
  · exact ((((((((st.below.setCell (Nat.le_refl _) _).setCell (Nat.le_refl _) _).setCell (Nat.le_refl _) _).setCell (Nat.le_refl _) _).setCell (Nat.le_refl _) _).setCell (Nat.le_refl _) _).setCell (Nat.le_refl _) _).setCell (Nat.le_refl _) _).setCell (Nat.le_refl _) _

set_option maxRecDepth 1000000 in
set_option maxHeartbeats 2000000 in
theorem next_core (sb : Nat) (T hB cB eB rest line1 clock ev line2 : ByteArray) (bl : List UInt8) (crlf : Bool) (p n1 n2 : Nat) (l rl : Int) (rh rc re : ByteArray) (w : World)
    (hS : w.heap[sb]? = some (.cells (scan T crlf (p : Int) l rl rh rc re) 43 (0, 0))) (hE : Env w) (h3 : 3 ≤ sb) (hTs : T.size ≤ 1048576) (hl0 : 0 ≤ l) (hl1 : l ≤ 1048576)
    (hp : p < T.size) (hx0 : T.extract p T.size = rest) (hi1 : Lib.indexByte rest.data.toList ((10 : Int).toNat.toUInt8) = (n1 : Int)) (hn1 : n1 < rest.size) (hx1 : rest.extract 0 n1 = line1) (hrs : rest.size ≤ 1048576)
    (hls1 : line1.size ≤ 1048576) (HL1 : Hid (line1.data.toList = clock.data.toList ++ (if crlf then [13] else []))) (hcs : clock.size ≤ 1048576)
    (HC : Hid (clock.data.toList = hB.data.toList ++ (32 :: 123 :: (bl ++ [125])))) (HCB : Hid (cB.data.toList = 123 :: (bl ++ [125]))) (hok : HostOK hB.data.toList)
    (hx2 : rest.extract (n1 + 1) rest.size = ev) (hi2 : Lib.indexByte ev.data.toList ((10 : Int).toNat.toUInt8) = (n2 : Int)) (hn2 : n2 < ev.size) (hevs : ev.size ≤ 1048576) (hx3 : ev.extract 0 n2 = line2) (hls2 : line2.size ≤ 1048576)
    (HL2 : Hid (line2.data.toList = eB.data.toList ++ (if crlf then [13] else []))) :
    Calls Tryd.prog 14 #[.pointer (some ⟨sb, 0, none⟩)] w fun e w' => e = .returned (.bool true) ∧
      w'.heap[sb]? = some (.cells (scan T crlf ((p : Int) + (n1 + 1 + n2 + 1)) (l + 2) l hB cB eB) 43 (0, 0)) ∧ Below sb w w' := by
  have st : St w w sb T crlf (p : Int) l rl rh rc re := ⟨hS, hE, Below.refl _ _, h3⟩
  clear hS hE
  obtain ⟨c0, c1, c2, c3⟩ := st.c
  have hne : ((p : Int) == (T.size : Int)) = false := beq_eq_false_iff_ne.2 (by omega)
  have hpT : (p : Int) ≤ (T.size : Int) := by omega
  have hpN : p ≤ T.size := by omega
  have hn1I : (n1 : Int) ≤ (rest.size : Int) := by omega
  have hn1N : n1 ≤ rest.size := by omega
  have hn1I1 : (n1 : Int) + 1 ≤ (rest.size : Int) := by omega
  have hn2I : (n2 : Int) ≤ (ev.size : Int) := by omega
  have hn2N : n2 ≤ ev.size := by omega
  have hwl : IntKind.i64.wrap (l + 1) = l + 1 := wrap_small _ (by omega) (by omega)
  go_enter Tryd.func14, Tryd.ntmps14
  go_wp2
  go_quiet (fail)
  have st1 := st.to (below_drewN (Below.refl _ _) nq)
  generalize w.drewN nq = w1 at *
  clear c0 c1 c2 c3 st
  obtain ⟨c0, c1, c2, c3⟩ := st1.c
  go_wp2
  go_quiet (fail)
  have st2 := st1.to (below_drewN (Below.refl _ _) nq)
  generalize w1.drewN nq = w2 at *
  clear c0 c1 c2 c3 st1
  obtain ⟨c0, c1, c2, c3⟩ := st2.c
  go_wp2_with (go_at_call 15; go_must (refine (Tryd.strings_IndexByte _ _ _).mono ?_); rw [hi1]; rintro e w' ⟨rfl, hw'⟩; obtain rfl := hw'.symm)
  go_quiet ((go_at_call 16; exact Calls.quiet_of_same (lineText_any sb line1 clock _ crlf _ hls1 HL1.out (by exact c1))))
  have st3 := st2.to (below_drewN (Below.refl _ _) nq)
  generalize w2.drewN nq = w3 at *
  clear c0 c1 c2 c3 st2
  obtain ⟨c0, c1, c2, c3⟩ := st3.c
  obtain ⟨m, hm⟩ := st3.env.m
  go_wp2_with fail
  refine (splitClock clock hB cB bl _ HC.out HCB.out hok hcs m hm st3.env.tabs (by have := st3.three; have := (Array.getElem?_eq_some_iff.1 st3.heap).1; omega)).mono ?_
  rintro e w4 ⟨rfl, hb4⟩
  have st4 := st3.to hb4
  clear c0 c1 c2 c3 st3 hm hb4
  obtain ⟨c0, c1, c2, c3⟩ := st4.c
  go_wp2_with (go_at_call 15; go_must (refine (Tryd.strings_IndexByte _ _ _).mono ?_); rw [hi2]; rintro e w' ⟨rfl, hw'⟩; obtain rfl := hw'.symm)
  go_quiet ((go_at_call 16; exact Calls.quiet_of_same (lineText_any sb line2 eB _ crlf _ hls2 HL2.out (by exact c1))))
  have st5 := st4.to (below_drewN (Below.refl _ _) nq)
  generalize w4.drewN nq = w5 at *
  clear c0 c1 c2 c3 st4
  obtain ⟨c0, c1, c2, c3⟩ := st5.c
  have f2 := scan_frozen st5.heap 2
  have f3 := scan_frozen st5.heap 3
  have f4 := scan_frozen st5.heap 4
  have f5 := scan_frozen st5.heap 5
  have f6 := scan_frozen st5.heap 6
  have f7 := scan_frozen st5.heap 7
  have f8 := scan_frozen st5.heap 8
  have f9 := scan_frozen st5.heap 9
  have f10 := scan_frozen st5.heap 10
  have c4 := scan_cell st5.heap 4 _ rfl
  have c5 := scan_cell st5.heap 5 _ rfl
  have c6 := scan_cell st5.heap 6 _ rfl
  have c7 := scan_cell st5.heap 7 _ rfl
  have c8 := scan_cell st5.heap 8 _ rfl
  have c9 := scan_cell st5.heap 9 _ rfl
  have c10 := scan_cell st5.heap 10 _ rfl
  go_wp2
  go_ret
  exact ⟨rfl, next_stores st5⟩
set_option maxRecDepth 1000000 in
set_option maxHeartbeats 1000000 in
theorem next_rec (sb : Nat) (T hB bB eB cB : ByteArray) (crlf : Bool) (pre post : List UInt8) (l rl : Int) (rh rc re : ByteArray) (w : World)
    (hS : w.heap[sb]? = some (.cells (scan T crlf (pre.length : Int) l rl rh rc re) 43 (0, 0))) (hE : Env w) (h3 : 3 ≤ sb)
    (hT : T.data.toList = pre ++ (recL crlf hB.data.toList bB.data.toList eB.data.toList ++ post)) (hTs : T.size ≤ 1048576)
    (hc : cB.data.toList = 123 :: (bB.data.toList ++ [125])) (hh : HostOK hB.data.toList) (hb : NoLF bB.data.toList) (he : NoLF eB.data.toList) (hl0 : 0 ≤ l) (hl1 : l ≤ 1048576) :
    Calls Tryd.prog 14 #[.pointer (some ⟨sb, 0, none⟩)] w fun e w' => e = .returned (.bool true) ∧
      w'.heap[sb]? = some (.cells (scan T crlf ((pre ++ recL crlf hB.data.toList bB.data.toList eB.data.toList).length : Int) (l + 2) l hB cB eB) 43 (0, 0)) ∧ Below sb w w' := by
  -- the parts of the text
  obtain ⟨rest, hrest⟩ : ∃ rest, T.extract pre.length T.size = rest := ⟨_, rfl⟩
  have hrl : rest.data.toList = (clockL hB.data.toList bB.data.toList ++ crL crlf) ++ (10 :: ((eB.data.toList ++ crL crlf) ++ (10 :: post))) := by
    rw [← hrest, extract_list, size_list T, List.take_length, hT, List.drop_append_of_le_length (Nat.le_refl _), List.drop_length]
    simp [recL]
  obtain ⟨n1, hn1⟩ : ∃ n, n = (clockL hB.data.toList bB.data.toList ++ crL crlf).length := ⟨_, rfl⟩
  obtain ⟨n2, hn2⟩ : ∃ n, n = (eB.data.toList ++ crL crlf).length := ⟨_, rfl⟩
  have hi1 : Lib.indexByte rest.data.toList ((10 : Int).toNat.toUInt8) = (n1 : Int) := by
    rw [hrl, hn1]; exact indexByte_lf _ _ (noLF_clock crlf hh hb)
  obtain ⟨line1, hline1⟩ : ∃ x, rest.extract 0 n1 = x := ⟨_, rfl⟩
  have hl1l : line1.data.toList = clockL hB.data.toList bB.data.toList ++ crL crlf := by
    rw [← hline1, extract_list, hrl, hn1, List.drop_zero, List.take_append_of_le_length (Nat.le_refl _), List.take_length]
  obtain ⟨ev, hev⟩ : ∃ x, rest.extract (n1 + 1) rest.size = x := ⟨_, rfl⟩
  have hevl : ev.data.toList = (eB.data.toList ++ crL crlf) ++ (10 :: post) := by
    rw [← hev, extract_list, size_list rest, List.take_length, hrl, hn1, List.drop_append, List.drop_eq_nil_of_le (by omega), Nat.add_sub_cancel_left]
    rfl
  have hi2 : Lib.indexByte ev.data.toList ((10 : Int).toNat.toUInt8) = (n2 : Int) := by
    rw [hevl, hn2]; exact indexByte_lf _ _ (noLF_event crlf he)
  obtain ⟨line2, hline2⟩ : ∃ x, ev.extract 0 n2 = x := ⟨_, rfl⟩
  have hl2l : line2.data.toList = eB.data.toList ++ crL crlf := by
    rw [← hline2, extract_list, hevl, hn2, List.drop_zero, List.take_append_of_le_length (Nat.le_refl _), List.take_length]
  have eT : (T.size : Int) = pre.length + (recL crlf hB.data.toList bB.data.toList eB.data.toList).length + post.length := by rw [size_list T, hT]; simp; omega
  have eR : (recL crlf hB.data.toList bB.data.toList eB.data.toList).length = n1 + 1 + n2 + 1 := by rw [hn1, hn2]; simp [recL]; omega
  have e1 : rest.size = n1 + 1 + (n2 + 1 + post.length) := by rw [size_list rest, hrl, hn1, hn2]; simp; omega
  have e2 : ev.size = n2 + 1 + post.length := by rw [size_list ev, hevl, hn2]; simp; omega
  have e3 : line1.size = n1 := by rw [size_list line1, hl1l, hn1]
  have e4 : line2.size = n2 := by rw [size_list line2, hl2l, hn2]
  obtain ⟨clock, hck⟩ : ∃ c : ByteArray, c.data.toList = clockL hB.data.toList bB.data.toList := ⟨⟨(clockL hB.data.toList bB.data.toList).toArray⟩, rfl⟩
  have e5 : clock.size ≤ n1 := by rw [size_list clock, hck, hn1]; simp
  refine (next_core sb T hB cB eB rest line1 clock ev line2 bB.data.toList crlf pre.length n1 n2 l rl rh rc re w hS hE h3 hTs hl0 hl1 (by omega) hrest hi1 (by omega) hline1 (by omega) (by omega) (by rw [hl1l, hck]; rfl) (by omega) hck hc hh hev hi2 (by omega) (by omega) hline2 (by omega) (by rw [hl2l]; rfl)).mono ?_
  rintro e w' ⟨rfl, hh', hb'⟩
  refine ⟨rfl, ?_, hb'⟩
  rw [hh', List.length_append, eR]
  congr 4
end Go.Proofs.Qxb6603280aDoor
