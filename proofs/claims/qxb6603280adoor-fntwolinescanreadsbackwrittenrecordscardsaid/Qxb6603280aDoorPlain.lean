/-
  The plain law: what a written record looks like, and where its parts lie. No Go in sight.
-/
import Derived.Test.Qxb6603280aDoorW5
namespace Go.Proofs.Qxb6603280aDoor
open Go.RowKit

/-- the CR ahead of a line feed, where lines end in CR LF -/
def crL (crlf : Bool) : List UInt8 := if crlf then [13] else []
/-- the clock line's text -/
def clockL (h b : List UInt8) : List UInt8 := h ++ (32 :: 123 :: (b ++ [125]))
/-- a record as it is written -/
def recL (crlf : Bool) (h b e : List UInt8) : List UInt8 := (clockL h b ++ crL crlf) ++ (10 :: ((e ++ crL crlf) ++ [10]))
/-- the first k records -/
def textTo (crlf : Bool) (h b e : Nat → ByteArray) : Nat → List UInt8
  | 0 => []
  | k + 1 => textTo crlf h b e k ++ recL crlf (h k).data.toList (b k).data.toList (e k).data.toList

theorem crL_length (crlf : Bool) : (crL crlf).length ≤ 1 := by cases crlf <;> simp [crL]
theorem recL_length (crlf : Bool) (h b e : List UInt8) : (recL crlf h b e).length = h.length + b.length + e.length + 5 + 2 * (crL crlf).length := by
  simp [recL, clockL]; omega
theorem textTo_length (crlf : Bool) (h b e : Nat → ByteArray) (k : Nat) : (textTo crlf h b e k).length ≤ sumTo h b e k := by
  induction k with
  | zero => simp [textTo, sumTo]
  | succ k ih =>
    have h1 := crL_length crlf
    have h2 := recL_length crlf (h k).data.toList (b k).data.toList (e k).data.toList
    simp only [textTo, sumTo, List.length_append, h2, size_list]
    omega

/-- the text, parted at record k -/
theorem textTo_split (crlf : Bool) (h b e : Nat → ByteArray) (len k : Nat) (hk : k < len) :
    ∃ post, textTo crlf h b e len = textTo crlf h b e k ++ (recL crlf (h k).data.toList (b k).data.toList (e k).data.toList ++ post) := by
  induction len with
  | zero => omega
  | succ n ih =>
    rcases Nat.lt_succ_iff_lt_or_eq.1 hk with h1 | rfl
    · obtain ⟨post, hp⟩ := ih h1
      exact ⟨post ++ recL crlf (h n).data.toList (b n).data.toList (e n).data.toList, by rw [textTo, hp]; simp⟩
    · exact ⟨[], by rw [textTo, List.append_nil]⟩

/-- the first line feed -/
theorem indexByte_lf (l r : List UInt8) (h : NoLF l) : Lib.indexByte (l ++ (10 :: r)) 10 = l.length := by
  induction l with
  | nil => simp [Lib.indexByte]
  | cons c l ih =>
    have hc : (c == 10) = false := by simpa using h c (by simp)
    have := ih (fun x hx => h x (by simp [hx]))
    simp only [List.cons_append, Lib.indexByte, hc, this, List.length_cons]
    have e : (((l.length : Nat) : Int) == -1) = false := beq_eq_false_iff_ne.2 (by omega)
    simp [e]

theorem noLF_clock (crlf : Bool) {h b : List UInt8} (hh : HostOK h) (hb : NoLF b) : NoLF (clockL h b ++ crL crlf) := by
  intro c hc
  simp only [clockL, List.mem_append, List.mem_cons, List.mem_nil_iff, or_false] at hc
  rcases hc with (hc | rfl | rfl | hc | rfl) | hc
  · exact (hh c hc).2.2.2.2
  · decide
  · decide
  · exact hb c hc
  · decide
  · cases crlf
    · simp [crL] at hc
    · simp only [crL, if_true, List.mem_cons, List.mem_nil_iff, or_false] at hc
      subst hc; decide
theorem noLF_event (crlf : Bool) {e : List UInt8} (he : NoLF e) : NoLF (e ++ crL crlf) := by
  intro c hc
  rcases List.mem_append.1 hc with hc | hc
  · exact he c hc
  · cases crlf
    · simp [crL] at hc
    · simp only [crL, if_true, List.mem_cons, List.mem_nil_iff, or_false] at hc
      subst hc; decide
end Go.Proofs.Qxb6603280aDoor
