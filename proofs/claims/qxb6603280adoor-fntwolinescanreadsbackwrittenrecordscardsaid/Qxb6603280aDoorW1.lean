/-
  The small walks of the seat: zzAdd, zzHostOK, zzNoLF, zzBytes.., zzEntriesBytes, zzEntriesWritable.
-/
import Derived.Test.Qxb6603280aDoorRows
import Derived.WalkKit
import Derived.WalkSpells
import Derived.WalkLawsBesides
import Derived.Deep.QuietTactic
import Derived.BigQuiet
namespace Go.Proofs.Qxb6603280aDoor
open Go.RowKit

theorem ret_int {k : IntKind} {a b : Int} (h : a = b) : Ending.returned (.int k a) = .returned (.int k b) := by rw [h]

/-- what zzAdd answers -/
def zadd (t n : Int) : Int := if 1048576 - t < n then 1048577 else t + n

set_option maxHeartbeats 400000 in
theorem add_any (t n : Int) (w : World) (h0 : 0 ≤ t) (h1 : t ≤ 1048577) (h2 : 0 ≤ n) (h3 : n ≤ 9223372036854775807) :
    Calls Tryd.prog 11 #[.int .i64 t, .int .i64 n] w fun e w' => e = .returned (.int .i64 (zadd t n)) ∧ w' = w := by
  by_cases h : 1048576 - t < n
  · go_enter Tryd.func11, Tryd.ntmps11
    go_wp2
    go_ret
    exact ⟨ret_int (by unfold zadd; rw [if_pos h]), rfl⟩
  · go_enter Tryd.func11, Tryd.ntmps11
    go_wp2
    go_ret
    exact ⟨ret_int (by unfold zadd; rw [if_neg (by omega)]), rfl⟩

/-- a host that can be written: no blank, tab, form feed, CR, LF -/
def HostOK (l : List UInt8) : Prop := ∀ c ∈ l, c ≠ 32 ∧ c ≠ 9 ∧ c ≠ 12 ∧ c ≠ 13 ∧ c ≠ 10
def NoLF (l : List UInt8) : Prop := ∀ c ∈ l, c ≠ 10

theorem take_snoc (s : ByteArray) (k : Nat) (h : k < s.size) : s.data.toList.take (k + 1) = s.data.toList.take k ++ [s[k]] := by
  rw [List.take_succ_eq_append_getElem (by simpa using h)]; rfl

theorem u8_ne (c d : UInt8) (h : ((c.toNat : Int) == (d.toNat : Int)) = false) : c ≠ d := by
  intro e; subst e; simp at h

/-- the call answers a bool, leaves the world alone, and where it answers true 'Q' stands -/
def AnsB (Q : Prop) (w : World) : Ending → World → Prop := fun e w' => ∃ b : Bool, e = .returned (.bool b) ∧ w' = w ∧ (b = true → Q)

set_option maxHeartbeats 400000 in
theorem noLF_any (s : ByteArray) (w : World) (hs : s.size ≤ 9223372036854775807) :
    Calls Tryd.prog 13 #[.string s] w (AnsB (NoLF s.data.toList) w) := by
  go_enter Tryd.func13, Tryd.ntmps13
  go_wp2
  go_loop [3] (fun i => ∃ k : Nat, k ≤ s.size ∧ i = .int .i64 k ∧ NoLF (s.data.toList.take k)) (fun i => s.size - (intOf i).toNat)
  case atStart => exact ⟨0, Nat.zero_le _, rfl, by intro c hc; simp at hc⟩
  case round =>
    obtain ⟨k, hk, rfl, hno⟩ := hrel
    have HN : Hid (NoLF (s.data.toList.take k)) := hno
    clear hno
    by_cases hlt : k < s.size
    · go_wp2
      · go_ret
        exact ⟨false, rfl, rfl, by intro h; cases h⟩
      · have hne := u8_ne s[k] 10 (by first | assumption | simp_all)
        go_round
        case rel => exact ⟨k + 1, by omega, by go_num, by rw [take_snoc s k hlt]; intro c hc; rcases List.mem_append.1 hc with h | h; exact HN.out c h; simp at h; subst h; exact hne⟩
        case measure => simp [intOf]; omega
    · go_wp2
      go_ret
      refine ⟨true, rfl, rfl, fun _ => ?_⟩
      have := HN.out
      rwa [List.take_of_length_le (by simp; omega)] at this

set_option maxHeartbeats 1000000 in
theorem hostOK_any (s : ByteArray) (w : World) (hs : s.size ≤ 9223372036854775807) :
    Calls Tryd.prog 12 #[.string s] w (AnsB (HostOK s.data.toList) w) := by
  go_enter Tryd.func12, Tryd.ntmps12
  go_wp2
  go_loop [3] (fun i => ∃ k : Nat, k ≤ s.size ∧ i = .int .i64 k ∧ HostOK (s.data.toList.take k)) (fun i => s.size - (intOf i).toNat)
  case atStart => exact ⟨0, Nat.zero_le _, rfl, by intro c hc; simp at hc⟩
  case round =>
    obtain ⟨k, hk, rfl, hno⟩ := hrel
    have HN : Hid (HostOK (s.data.toList.take k)) := hno
    clear hno
    by_cases hlt : k < s.size
    · go_wp2
      all_goals first
        | (go_ret; exact ⟨false, rfl, rfl, by intro h; cases h⟩)
        | skip
      have hx : ((((↑s[k].toNat == (32 : Int)) = false ∧ (↑s[k].toNat == (9 : Int)) = false) ∧ (↑s[k].toNat == (12 : Int)) = false) ∧ (↑s[k].toNat == (13 : Int)) = false) ∧ (↑s[k].toNat == (10 : Int)) = false := by assumption
      obtain ⟨⟨⟨⟨x1, x2⟩, x3⟩, x4⟩, x5⟩ := hx
      have HX : Hid (s[k] ≠ 32 ∧ s[k] ≠ 9 ∧ s[k] ≠ 12 ∧ s[k] ≠ 13 ∧ s[k] ≠ 10) := ⟨u8_ne _ 32 x1, u8_ne _ 9 x2, u8_ne _ 12 x3, u8_ne _ 13 x4, u8_ne _ 10 x5⟩
      go_round
      case rel => exact ⟨k + 1, by omega, by go_num, by rw [take_snoc s k hlt]; intro c hc; rcases List.mem_append.1 hc with h | h; exact HN.out c h; simp at h; subst h; exact HX.out⟩
      case measure => simp [intOf]; omega
    · go_wp2
      go_ret
      refine ⟨true, rfl, rfl, fun _ => ?_⟩
      have := HN.out
      rwa [List.take_of_length_le (by simp; omega)] at this

/-- the records that the slice '(ao, len)' leads to -/
structure Recs (w : World) (ao : Option Addr) (len : Nat) (h b e : Nat → ByteArray) : Prop where
  at_ : 0 < len → ∃ bl off, ao = some ⟨bl, off, none⟩ ∧ bl < w.heap.size ∧ ∀ i, i < len → w.cell? ⟨bl, off + i * 3, none⟩ = some (.string (h i)) ∧ w.cell? ⟨bl, off + i * 3 + 1, none⟩ = some (.string (b i)) ∧ w.cell? ⟨bl, off + i * 3 + 2, none⟩ = some (.string (e i))
  hs : ∀ i, i < len → (h i).size ≤ 9223372036854775807
  bs : ∀ i, i < len → (b i).size ≤ 9223372036854775807
  es : ∀ i, i < len → (e i).size ≤ 9223372036854775807

set_option maxHeartbeats 1000000 in
theorem bytes_any (ao : Option Addr) (len cap : Nat) (h b e : Nat → ByteArray) (crlf : Bool) (w : World) (hl : len ≤ maxLen) (R : Recs w ao len h b e) :
    Calls Tryd.prog 4 #[.slice ao len cap, .bool crlf] w (AnsB True w) := by
  unfold maxLen at hl
  go_enter Tryd.func4, Tryd.ntmps4
  go_wp2
  · go_ret
    exact ⟨false, rfl, rfl, fun _ => trivial⟩
  go_loop [5, 6] (fun t i => ∃ k : Nat, k ≤ len ∧ i = .int .i64 k ∧ ∃ n : Int, 0 ≤ n ∧ n ≤ 1048576 ∧ t = .int .i64 n) (fun _ i => len - (intOf i).toNat)
  case atStart => exact ⟨0, Nat.zero_le _, rfl, _, by omega, by omega, rfl⟩
  case round =>
    obtain ⟨k, hk, rfl, n, hn0, hn1, rfl⟩ := hrel
    by_cases hlt : k < len
    · obtain ⟨bl, off, rfl, _, hc⟩ := R.at_ (by omega)
      obtain ⟨c0, c1, c2⟩ := hc k hlt
      have s0 := R.hs k hlt
      have s1 := R.bs k hlt
      have s2 := R.es k hlt
      clear hc
      go_wp2
      all_goals first
        | (go_ret; exact ⟨false, rfl, rfl, fun _ => trivial⟩)
        | skip
      go_round
      case rel => exact ⟨k + 1, by omega, by go_num, _, by omega, by omega, rfl⟩
      case measure => simp [intOf]; omega
    · go_wp2
      go_ret
      exact ⟨true, rfl, rfl, fun _ => trivial⟩

/-- what the first k records take up, reckoned as zzEntriesBytes does -/
def sumTo (h b e : Nat → ByteArray) : Nat → Nat
  | 0 => 0
  | k + 1 => sumTo h b e k + (48 + (h k).size + (b k).size + (e k).size)

theorem zadd_bd (t n : Int) (h0 : 0 ≤ t) (h1 : t ≤ 1048577) (h2 : 0 ≤ n) : 0 ≤ zadd t n ∧ zadd t n ≤ 1048577 ∧ (zadd t n ≤ 1048576 → zadd t n = t + n ∧ t ≤ 1048576) := by
  unfold zadd; split <;> omega

/-- what zzEntriesBytes answers -/
def AnsT (S : Nat) (w : World) : Ending → World → Prop := fun e w' => ∃ t : Int, e = .returned (.int .i64 t) ∧ w' = w ∧ 0 ≤ t ∧ (t ≤ 1048576 → t = S)

set_option maxHeartbeats 1000000 in
theorem entriesBytes_any (ao : Option Addr) (len cap : Nat) (h b e : Nat → ByteArray) (w : World) (hl : len ≤ maxLen) (R : Recs w ao len h b e) :
    Calls Tryd.prog 5 #[.slice ao len cap] w (AnsT (sumTo h b e len) w) := by
  unfold maxLen at hl
  go_enter Tryd.func5, Tryd.ntmps5
  go_wp2
  go_loop [3, 4] (fun t i => ∃ k : Nat, k ≤ len ∧ i = .int .i64 k ∧ ∃ n : Int, 0 ≤ n ∧ n ≤ 1048577 ∧ Hid (n ≤ 1048576 → n = sumTo h b e k) ∧ t = .int .i64 n) (fun _ i => len - (intOf i).toNat)
  case atStart => exact ⟨0, Nat.zero_le _, rfl, 0, by omega, by omega, fun _ => rfl, rfl⟩
  case round =>
    obtain ⟨k, hk, rfl, n, hn0, hn1, HN, rfl⟩ := hrel
    by_cases hlt : k < len
    · by_cases hle : n ≤ 1048576
      · obtain ⟨bl, off, rfl, _, hc⟩ := R.at_ (by omega)
        obtain ⟨c0, c1, c2⟩ := hc k hlt
        have s0 := R.hs k hlt
        have s1 := R.bs k hlt
        have s2 := R.es k hlt
        obtain ⟨a1, b1, d1⟩ := zadd_bd n 48 hn0 hn1 (by omega)
        obtain ⟨a2, b2, d2⟩ := zadd_bd (zadd n 48) (h k).size a1 b1 (by omega)
        obtain ⟨a3, b3, d3⟩ := zadd_bd (zadd (zadd n 48) (h k).size) (b k).size a2 b2 (by omega)
        obtain ⟨a4, b4, d4⟩ := zadd_bd (zadd (zadd (zadd n 48) (h k).size) (b k).size) (e k).size a3 b3 (by omega)
        have HF : Hid (zadd (zadd (zadd (zadd n 48) (h k).size) (b k).size) (e k).size ≤ 1048576 → zadd (zadd (zadd (zadd n 48) (h k).size) (b k).size) (e k).size = sumTo h b e (k + 1)) := fun hh => by
          have e4 := d4 hh
          have e3 := d3 e4.2
          have e2 := d2 e3.2
          have e1 := d1 e2.2
          have e0 := HN.out e1.2
          show _ = ((sumTo h b e k + (48 + (h k).size + (b k).size + (e k).size) : Nat) : Int)
          omega
        clear hc d1 d2 d3 d4 HN
        go_wp2_with (go_at_call 11; refine (add_any _ _ _ (by omega) (by omega) (by omega) (by omega)).mono ?_; rintro e w' ⟨rfl, rfl⟩)
        go_round
        case rel => exact ⟨k + 1, by omega, by go_num, _, a4, b4, HF, rfl⟩
        case measure => simp [intOf]; omega
      · go_wp2
        go_ret
        exact ⟨n, rfl, rfl, hn0, fun hh => by omega⟩
    · obtain rfl : k = len := by omega
      go_wp2
      all_goals
        go_ret
        exact ⟨n, rfl, rfl, hn0, HN.out⟩

/-- all records can be written -/
def Writable (len : Nat) (h b e : Nat → ByteArray) : Prop := ∀ i, i < len → HostOK (h i).data.toList ∧ NoLF (b i).data.toList ∧ NoLF (e i).data.toList

set_option maxHeartbeats 1000000 in
theorem writable_any (ao : Option Addr) (len cap : Nat) (h b e : Nat → ByteArray) (w : World) (hl : len ≤ maxLen) (R : Recs w ao len h b e) :
    Calls Tryd.prog 6 #[.slice ao len cap] w (AnsB (Writable len h b e) w) := by
  unfold maxLen at hl
  go_enter Tryd.func6, Tryd.ntmps6
  go_wp2
  go_loop [3] (fun i => ∃ k : Nat, k ≤ len ∧ i = .int .i64 k ∧ Hid (Writable k h b e)) (fun i => len - (intOf i).toNat)
  case atStart => exact ⟨0, Nat.zero_le _, rfl, fun i hi => absurd hi (Nat.not_lt_zero _)⟩
  case round =>
    obtain ⟨k, hk, rfl, HN⟩ := hrel
    by_cases hlt : k < len
    · obtain ⟨bl, off, rfl, _, hc⟩ := R.at_ (by omega)
      obtain ⟨c0, c1, c2⟩ := hc k hlt
      have s0 := R.hs k hlt
      have s1 := R.bs k hlt
      have s2 := R.es k hlt
      clear hc
      go_wp2_with (first | (go_at_call 12; refine (hostOK_any _ _ s0).mono ?_; rintro e w' ⟨v0, rfl, rfl, q0⟩) | (go_at_call 13; refine (noLF_any _ _ (by assumption)).mono ?_; rintro e w' ⟨v1, rfl, rfl, q1⟩))
      all_goals first
        | (go_ret; exact ⟨false, rfl, rfl, by intro h; cases h⟩)
        | skip
      have x0 : HostOK (h k).data.toList := by refine q0 ?_; assumption
      have x1 : NoLF (b k).data.toList := by refine (‹_ = true → NoLF (b k).data.toList›) ?_; assumption
      have x2 : NoLF (e k).data.toList := q1 (by simpa using ‹(!v1) = false›)
      go_round
      case rel => exact ⟨k + 1, by omega, by go_num, fun i hi => by
        rcases Nat.lt_succ_iff_lt_or_eq.1 hi with hlt' | rfl
        · exact HN.out i hlt'
        · exact ⟨x0, x1, x2⟩⟩
      case measure => simp [intOf]; omega
    · obtain rfl : k = len := by omega
      go_wp2
      go_ret
      exact ⟨true, rfl, rfl, fun _ => HN.out⟩
end Go.Proofs.Qxb6603280aDoor
