/-
  splitClockLine, lineText.
-/
import Derived.Test.Qxb6603280aDoorW4
import Derived.Deep.RegionWith
import Derived.Lib.IndexBytes
namespace Go.Proofs.Qxb6603280aDoor
open Go.RowKit
set_option linter.unusedVariables false

theorem ba_ext {a b : ByteArray} (h : a.data.toList = b.data.toList) : a = b := by
  cases a; cases b; simp only [ByteArray.mk.injEq]; exact Array.toList_inj.1 h

theorem extract_list (s : ByteArray) (a b : Nat) : (s.extract a b).data.toList = (s.data.toList.take b).drop a := by
  rw [ByteArray.data_extract, Array.toList_extract]
  simp [List.extract, List.drop_take]

/-- ' {' first stands behind a host without a blank -/
theorem index_clock (h r : List UInt8) (hok : ∀ c ∈ h, c ≠ 32) : Lib.index (h ++ (32 :: 123 :: r)) [32, 123] = h.length := by
  refine Lib.index_first (by simp) ?_ ?_
  · simp [Lib.occAt]
  · intro j hj
    unfold Lib.occAt
    rw [List.drop_append_of_le_length (by omega)]
    have e : h.drop j = h[j] :: h.drop (j + 1) := List.drop_eq_getElem_cons hj
    rw [e]
    have hne := hok _ (List.getElem_mem hj)
    have hb : ((32 : UInt8) == h[j]) = false := by simpa using Ne.symm hne
    rw [List.cons_append, List.isPrefixOf, hb, Bool.false_and]

theorem suffix_clock (l : List UInt8) (c : UInt8) : Lib.hasSuffix (l ++ [c]) [c] = true := by
  simp [Lib.hasSuffix]

theorem size_list (s : ByteArray) : s.size = s.data.toList.length := by simp

set_option maxRecDepth 1000000 in
set_option maxHeartbeats 1000000 in
theorem splitClock (line hB cB : ByteArray) (bl : List UInt8) (w : World) (hl : line.data.toList = hB.data.toList ++ (32 :: 123 :: (bl ++ [125]))) (hc : cB.data.toList = 123 :: (bl ++ [125])) (hok : HostOK hB.data.toList) (hls : line.size ≤ 1048576)
    (m : Int) (hm : w.cell? ⟨0, 0, none⟩ = some (.int .i64 m)) (hT : Lib.Utf8Tabs 1 2 w) (h3 : 3 ≤ w.heap.size) :
    Calls Tryd.prog 17 #[.string line] w fun e w' => e = .returned (.tuple #[.string hB, .string cB, .bool true]) ∧ Below w.heap.size w w' := by
  have hidx : Lib.index line.data.toList (ByteArray.mk #[32, 123]).data.toList = (hB.size : Int) := by
    rw [hl, size_list hB]; exact index_clock _ _ (fun c hc => (hok c hc).1)
  have hsuf : Lib.hasSuffix line.data.toList (ByteArray.mk #[125]).data.toList = true := by
    rw [hl, show hB.data.toList ++ (32 :: 123 :: (bl ++ [125])) = (hB.data.toList ++ (32 :: 123 :: bl)) ++ [125] by simp]
    exact suffix_clock _ _
  have hll : line.size = hB.size + (bl.length + 3) := by rw [size_list line, hl, size_list hB]; simp
  have hx1 : line.extract 0 hB.size = hB := by
    apply ba_ext
    rw [extract_list, hl, size_list hB, List.drop_zero, List.take_append_of_le_length (Nat.le_refl _), List.take_length]
  have hx3 : line.extract (hB.size + 1) line.size = cB := by
    apply ba_ext
    rw [extract_list, hc, size_list line, List.take_length, hl, size_list hB, List.drop_append, List.drop_eq_nil_of_le (by omega), Nat.add_sub_cancel_left]
    rfl
  have hleN : hB.size ≤ line.size := by omega
  have hleN1 : hB.size + 1 ≤ line.size := by omega
  have hleN2 : hB.size < line.size := by omega
  have hle : (hB.size : Int) ≤ (line.size : Int) := by omega
  have hle1 : (hB.size : Int) + 1 ≤ (line.size : Int) := by omega
  have hwr : IntKind.i64.wrap ((hB.size : Int) + 1) = (hB.size : Int) + 1 := wrap_small _ (by omega) (by omega)
  have hwz : IntKind.i64.wrap 0 = 0 := by decide
  clear hl hc hll
  go_enter Tryd.func17, Tryd.ntmps17
  go_wp2_with (first | (go_at_call 22; go_must (refine (Tryd.strings_HasSuffix _ _ _ (by omega)).mono ?_); rw [hsuf]; rintro e w' ⟨rfl, hw'⟩; obtain rfl := hw'.symm) | (go_at_call 23; go_must (refine (Tryd.strings_Index _ _ m _ (by omega) hm).mono ?_); rw [hidx]; rintro e w' ⟨rfl, hw'⟩; obtain rfl := hw'.symm))
  go_region_with (go_at_call 24; refine (lastAny hB _ (by omega) hok (by first | exact hT | exact tabs_below hT (Below.refl _ _).drew h3) (by exact h3)).mono ?_; rintro e w1 ⟨rfl, hb1⟩)
  all_goals
    go_wp2
    go_ret3
    exact ⟨rfl, (Below.refl _ _).drew.trans hb1⟩

theorem trim_cr (x : List UInt8) : Lib.trimSuffix (x ++ [13]) [13] = x := by
  simp [Lib.trimSuffix, Lib.hasSuffix]

/-- lineText: a line whose end fits the scanner's -/
theorem lineText_any (sb : Nat) (line x : ByteArray) (n : Int) (crlf : Bool) (w : World) (hls : line.size ≤ 1048576) (hl : line.data.toList = x.data.toList ++ (if crlf then [13] else [])) (hc : w.cell? ⟨sb, 1, none⟩ = some (.bool crlf)) :
    Calls Tryd.prog 16 #[.pointer (some ⟨sb, 0, none⟩), .string line, .int .i64 n] w fun e w' => e = .returned (.tuple #[.string x, .bool true]) ∧ w' = w := by
  cases crlf with
  | false =>
    obtain rfl : line = x := ba_ext (by rw [hl]; simp)
    go_enter Tryd.func16, Tryd.ntmps16
    go_wp2
    go_ret2
    exact ⟨rfl, rfl⟩
  | true =>
    have h1 : Lib.trimSuffix line.data.toList (ByteArray.mk #[13]).data.toList = x.data.toList := by rw [hl]; exact trim_cr _
    have h2 : Lib.hasSuffix line.data.toList (ByteArray.mk #[13]).data.toList = true := by rw [hl]; exact suffix_clock _ _
    have hx : (⟨x.data.toList.toArray⟩ : ByteArray) = x := by cases x; simp
    clear hl
    go_enter Tryd.func16, Tryd.ntmps16
    go_wp2_with (go_at_call 21; go_must (refine (Tryd.strings_CutSuffix _ _ _ (by omega)).mono ?_); rw [h1, h2, hx]; rintro e w' ⟨rfl, hw'⟩; obtain rfl := hw'.symm)
    go_ret2
    exact ⟨rfl, rfl⟩
end Go.Proofs.Qxb6603280aDoor
