/-
  strings.LastIndexAny(s, " \t\f\r") where s holds none of the four: -1.
-/
import Derived.Test.Qxb6603280aDoorW3
import Derived.Lib.TrimU
import Derived.Laws.CopyOwn
namespace Go.Proofs.Qxb6603280aDoor
open Go.RowKit
set_option linter.unusedVariables false

/-- the four white-space bytes of splitClockLine -/
abbrev ws4 : ByteArray := ⟨#[32, 9, 12, 13]⟩

theorem ws4_ascii : ∀ b ∈ ws4.data.toList, b.toNat < 128 := by decide
theorem ws4_miss {l : List UInt8} (h : HostOK l) {c : UInt8} (hc : c ∈ l) : c ∉ ws4.data.toList := by
  obtain ⟨a, b, d, e, _⟩ := h c hc
  show c ∉ [(32 : UInt8), 9, 12, 13]
  simp [a, b, d, e]

theorem tabs_below {B : Nat} {w w' : World} (h : Lib.Utf8Tabs 1 2 w) (hb : Below B w w') (hB : 3 ≤ B) : Lib.Utf8Tabs 1 2 w' :=
  ⟨fun c hc => (hb.cell (p := ⟨1, c, none⟩) (show 1 < B by omega)).trans (h.1 c hc), fun i hi => ⟨(hb.cell (p := ⟨2, 2 * i, none⟩) (show 2 < B by omega)).trans (h.2 i hi).1, (hb.cell (p := ⟨2, 2 * i + 1, none⟩) (show 2 < B by omega)).trans (h.2 i hi).2⟩⟩

theorem wrap32_byte (c : UInt8) : wrap32 (c.toNat : Int) = (c.toNat : Int) := by
  have := c.toNat_lt
  unfold wrap32; omega

/-- the last rune of l: an ASCII byte of l, or no ASCII rune -/
theorem lastRune (l : List UInt8) (h : 0 < l.length) (h8 : (Lib.decodeLastL l).1 < 128) : (Lib.decodeLastL l).1.toUInt8 ∈ l := by
  have hne : l ≠ [] := List.length_pos_iff.1 h
  unfold Lib.decodeLastL at h8 ⊢
  rw [if_neg hne] at h8 ⊢
  have hlast : l.getD (l.length - 1) 0 = l[l.length - 1]'(by omega) := by simp [List.getD, List.getElem?_eq_getElem (show l.length - 1 < l.length by omega)]
  by_cases hc : (l.getD (l.length - 1) 0).toNat < 128
  · rw [if_pos hc]
    show (l.getD (l.length - 1) 0).toNat.toUInt8 ∈ l
    rw [show (l.getD (l.length - 1) 0).toNat.toUInt8 = l.getD (l.length - 1) 0 from UInt8.ofNat_toNat, hlast]
    exact List.getElem_mem _
  · rw [if_neg hc] at h8
    exfalso
    simp only at h8
    split at h8
    · rename_i heq
      have hst := Lib.lastStart_lt l hne
      have hd : 0 < (⟨(l.drop (Lib.lastStart l)).toArray⟩ : ByteArray).size := by
        show 0 < (l.drop (Lib.lastStart l)).toArray.size
        simp; omega
      have hb0 : ((⟨(l.drop (Lib.lastStart l)).toArray⟩ : ByteArray)[0]'hd) = l[Lib.lastStart l]'hst := by
        show ((l.drop (Lib.lastStart l)).toArray[0]'_) = _
        simp
      unfold Lib.decodeL at h8 heq
      by_cases h0 : (l[Lib.lastStart l]'hst).toNat < 128
      · have hda := decode_ascii _ 0 hd (by rw [hb0]; exact h0)
        rw [hda] at heq
        simp only at heq
        have e1 : Lib.lastStart l = l.length - 1 := by omega
        rw [hlast] at hc
        apply hc
        have : l[l.length - 1]'(by omega) = l[Lib.lastStart l]'hst := by simp [e1]
        rw [this]; exact h0
      · have := (decode_high _ 0 hd (by rw [hb0]; omega)).1
        omega
    · simp [Utf8.runeError] at h8

set_option maxRecDepth 1000000 in
set_option maxHeartbeats 400000 in
theorem lastAny_one (s : ByteArray) (w : World) (hok : HostOK s.data.toList) (h1 : s.size = 1) :
    Calls Tryd.prog 24 #[.string s, .string ws4] w fun e w' => e = .returned (.int .i64 (-1)) ∧ Below w.heap.size w w' := by
  have hp : 0 < s.size := by omega
  have hm : s[0] ∈ s.data.toList := Array.getElem_mem_toList (xs := s.data) hp
  have hms := ws4_miss hok hm
  have hw : wrap32 (s[0].toNat : Int) = (s[0].toNat : Int) := wrap32_byte _
  by_cases h8 : (s[0].toNat : Int) < 128
  · go_enter Tryd.func24, Tryd.ntmps24
    go_wp2_with (go_at_call 30; go_must (refine (indexRune_miss _ _ _ (by decide) ws4_ascii (by omega) (fun _ => by simpa using hms)).mono ?_); rintro e w1 ⟨rfl, hb1⟩)
    go_ret
    exact ⟨rfl, hb1⟩
  · have h8' : (128 : Int) ≤ (s[0].toNat : Int) := by omega
    go_enter Tryd.func24, Tryd.ntmps24
    go_wp2_with (go_at_call 30; go_must (refine (indexRune_err _ _ ws4_ascii).mono ?_); rintro e w1 ⟨rfl, hb1⟩)
    go_ret
    exact ⟨rfl, hb1⟩

theorem hv58 : ∀ w, (zeroValue 58).run Tryd.prog w = .ok (.agg (Array.replicate 256 (.bool false))) w := fun w => by kernel_rfl

theorem store58 (w : World) : ∃ w2, (storeCells ⟨w.heap.size + 1, 0, none⟩ (Lib.setCells [32, 9, 12, 13]).toList).run Tryd.prog ((w.alloc (.cells (Lib.setCells [32, 9, 12, 13]) 58)).alloc (.cells (Array.replicate 256 (.bool false)) 58)) = .ok () w2 ∧
    (∀ x : UInt8, w2.cell? ⟨w.heap.size + 1, x.toNat, none⟩ = some (.bool ([(32 : UInt8), 9, 12, 13].contains x))) ∧ Below w.heap.size w w2 := by
  have hsz : (w.alloc (.cells (Lib.setCells [32, 9, 12, 13]) 58)).heap.size = w.heap.size + 1 := by simp
  have hg : ((w.alloc (.cells (Lib.setCells [32, 9, 12, 13]) 58)).alloc (.cells (Array.replicate 256 (.bool false)) 58)).heap[w.heap.size + 1]? = some (.cells (Array.replicate 256 (.bool false)) 58 (0, 0)) := by
    rw [← hsz]; exact heap_alloc_new _ _
  have hone : ∀ v ∈ (Lib.setCells [32, 9, 12, 13]).toList, v.oneCell' = true := by
    intro v hv
    rw [Lib.setCells_eq] at hv
    simp at hv
    obtain ⟨a, _, rfl⟩ := hv
    rfl
  have hst := run_storeCells_at Tryd.prog (w.heap.size + 1) 0 58 (Lib.setCells [32, 9, 12, 13]).toList 0 _ _ hg (by simp [Lib.setCells_size]) hone
  refine ⟨_, hst, fun x => ?_, ?_⟩
  · have h2 := setRow_heap _ (w.heap.size + 1) _ ((Array.replicate 256 (Value.bool false)).toList.take (0 + 0) ++ (Lib.setCells [32, 9, 12, 13]).toList ++ (Array.replicate 256 (Value.bool false)).toList.drop (0 + 0 + (Lib.setCells [32, 9, 12, 13]).toList.length)).toArray 58 (0, 0) hg
    have e1 : (Array.replicate 256 (Value.bool false)).toList.take (0 + 0) ++ (Lib.setCells [32, 9, 12, 13]).toList ++ (Array.replicate 256 (Value.bool false)).toList.drop (0 + 0 + (Lib.setCells [32, 9, 12, 13]).toList.length) = (Lib.setCells [32, 9, 12, 13]).toList := by
      rw [List.take_zero, List.nil_append, List.drop_eq_nil_of_le (by rw [Array.length_toList, Array.length_toList, Array.size_replicate, Lib.setCells_size]; omega), List.append_nil]
    rw [e1] at h2 ⊢
    have := Lib.setCells_at [32, 9, 12, 13] x
    simp only [World.cell?, h2]
    simpa using this
  · exact below_setRow (((Below.refl _ _).alloc (Nat.le_refl _) _).alloc (by simp) _) (by omega) _

set_option maxRecDepth 1000000 in
set_option maxHeartbeats 1000000 in
theorem lastAny_long (s : ByteArray) (w : World) (hss : s.size ≤ 4294967280) (hok : HostOK s.data.toList) (h1 : 8 < s.size) :
    Calls Tryd.prog 24 #[.string s, .string ws4] w fun e w' => e = .returned (.int .i64 (-1)) ∧ Below w.heap.size w w' := by
  have hv := hv58
  have hsz := Lib.setCells_size [32, 9, 12, 13]
  obtain ⟨w2, hrun, hset, hb2⟩ := store58 w
  go_enter Tryd.func24, Tryd.ntmps24
  go_wp2_with (first | (go_at_call 31; refine (Tryd.strings_shouldUseASCIISet _ _).mono ?_; rintro e w' ⟨rfl, hw'⟩; obtain rfl := hw'.symm) | (go_at_call 32; refine (Tryd.strings_makeASCIISet hv58 _ _ (by decide) (fun j b hb => ws4_ascii b (List.mem_of_getElem? hb))).mono ?_; rintro e w' ⟨rfl, hw'⟩; subst hw'))
  go_loop [8] (fun i => ∃ k : Int, -1 ≤ k ∧ k < s.size ∧ i = .int .i64 k) (fun i => (intOf i + 1).toNat)
  case atStart => exact ⟨_, by omega, by omega, rfl⟩
  case round =>
    obtain ⟨k, hk0, hk1, rfl⟩ := hrel
    by_cases hp : 0 ≤ k
    · obtain ⟨n, rfl⟩ := Int.eq_ofNat_of_zero_le hp
      have hn : n < s.size := by omega
      have hc : w2.cell? ⟨w.heap.size + 1, (s[n]'hn).toNat, none⟩ = some (.bool false) := by
        rw [hset]
        have := ws4_miss hok (c := s[n]'hn) (Array.getElem_mem_toList (xs := s.data) hn)
        have e : [(32 : UInt8), 9, 12, 13].contains (s[n]'hn) = false := by
          rw [Bool.eq_false_iff]; intro hh; exact this (by simpa using hh)
        rw [e]
      clear hset hrun
      go_wp2_with (go_at_call 33; go_must (refine (Tryd.asciiSet_contains _ _ _ _ hc).mono ?_); rintro e w' ⟨rfl, hw'⟩; obtain rfl := hw'.symm)
      go_round
      case rel => exact ⟨_, by omega, by omega, rfl⟩
      case measure => simp [intOf]
    · go_wp2
      go_ret
      exact ⟨rfl, hb2⟩

set_option maxRecDepth 1000000 in
set_option maxHeartbeats 1000000 in
theorem lastAny_short (s : ByteArray) (w : World) (hok : HostOK s.data.toList) (h1 : ((s.size : Int) == 1) = false) (h8 : s.size ≤ 8) (hT : Lib.Utf8Tabs 1 2 w) (h3 : 3 ≤ w.heap.size) :
    Calls Tryd.prog 24 #[.string s, .string ws4] w fun e w' => e = .returned (.int .i64 (-1)) ∧ Below w.heap.size w w' := by
  go_enter Tryd.func24, Tryd.ntmps24
  go_wp2_with (first | (go_at_call 31; refine (Tryd.strings_shouldUseASCIISet _ _).mono ?_; rintro e w' ⟨rfl, hw'⟩; obtain rfl := hw'.symm))
  go_loopw [13, 14, 15] (fun i _ _ wr => ∃ k : Nat, k ≤ s.size ∧ i = .int .i64 k ∧ Below w.heap.size w wr) (fun i _ _ _ => (intOf i).toNat)
  case atStart => exact ⟨_, Nat.le_refl _, rfl, Below.refl _ _⟩
  case round =>
    obtain ⟨k, hk, rfl, hb⟩ := hrel
    have hTr := tabs_below hT hb h3
    by_cases hp : 0 < k
    · have hsl : ∀ wx, (Instr.slice 9 (.string s) none (some (.int .i64 (k : Int))) none).run Tryd.prog wx = .ok (.string (s.extract 0 k)) wx := fun wx => by
        rw [run_slice_string_to_if wx 9 s .i64 _ Tryd.underlying9, if_pos ⟨by omega, by omega⟩]; rfl
      obtain ⟨t, ht⟩ : ∃ t, s.extract 0 k = t := ⟨_, rfl⟩
      have htl : t.data.toList.length = k := by rw [← ht]; simp [ByteArray.data_extract]; omega
      have hts : t.size = k := by rw [← htl]; simp
      have hmem : ∀ c ∈ t.data.toList, c ∈ s.data.toList := fun c hc => by rw [← ht] at hc; exact mem_extract hc
      obtain ⟨hw1, hw2⟩ := Lib.decodeLastL_width t.data.toList (by omega)
      have hlr := lastRune t.data.toList (by omega)
      have hms : (Lib.decodeLastL t.data.toList).1 < 128 → (Lib.decodeLastL t.data.toList).1.toUInt8 ∉ ws4.data.toList := fun h => ws4_miss hok (hmem _ (hlr h))
      rw [htl] at hw2
      clear hlr hmem htl
      generalize hD : Lib.decodeLastL t.data.toList = D at *
      have HD : Hid (Lib.decodeLastL t.data.toList = D) := hD
      clear hD
      obtain ⟨D1, D2⟩ := D
      rw [ht] at hsl
      have hms' : D1 < 128 → D1.toUInt8 ∉ ws4.data.toList := hms
      have hw1' : 1 ≤ D2 := hw1
      have hw2' : D2 ≤ k := hw2
      clear ht hms hw1 hw2
      go_wp2_with (first | (go_at_call 34; go_must (refine (Tryd.utf8_DecodeLastRuneInString _ _ (by omega) hTr).mono ?_); rw [HD.out]; rintro e w1 ⟨rfl, hb1⟩) | (go_at_call 30; go_must (refine (indexRune_miss _ _ _ (by decide) ws4_ascii (by omega) (fun h => by rw [Int.toNat_natCast]; exact hms' (by omega))).mono ?_); rintro e w2 ⟨rfl, hb2⟩))
      go_roundw
      case rel => exact ⟨k - D2, by omega, by go_num, (hb.trans (hb1.mono hb.size)).trans (hb2.mono (Nat.le_trans hb.size hb1.size))⟩
      case measure => simp [intOf]; omega
    · go_wp2
      go_ret
      exact ⟨rfl, hb⟩

theorem lastAny (s : ByteArray) (w : World) (hss : s.size ≤ 4294967280) (hok : HostOK s.data.toList) (hT : Lib.Utf8Tabs 1 2 w) (h3 : 3 ≤ w.heap.size) :
    Calls Tryd.prog 24 #[.string s, .string ws4] w fun e w' => e = .returned (.int .i64 (-1)) ∧ Below w.heap.size w w' := by
  by_cases h1 : s.size = 1
  · exact lastAny_one s w hok h1
  · by_cases h8 : 8 < s.size
    · exact lastAny_long s w hss hok h8
    · exact lastAny_short s w hok (beq_eq_false_iff_ne.2 (by omega)) (by omega) hT h3
end Go.Proofs.Qxb6603280aDoor
