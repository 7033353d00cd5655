/-
  For statement 5: what a map holds at one key, through stores; a list of strings in memory.
-/
import Derived.Test.Qxb6603875aDoorV6
import Derived.Test.Qxb6603875aDoorG2
import Derived.Maps.OwnSet
namespace Go.Proofs.Qxb6603875aDoor
open Go.RowKit Go.Maps Go.WideMaps
set_option linter.unusedVariables false

/-- a string as a key -/
def keyS (s : ByteArray) : Lit := .string s.data.toList
theorem keyS_ok (s : ByteArray) (h : s.size ≤ maxLen) : keyOf Tryd.prog 9 (.string s) = some (keyS s) := keyOf_string_mk Tryd.underlying9 h
theorem keyS_inj {a b : ByteArray} (h : keyS a = keyS b) : a = b := by
  unfold keyS at h
  cases a; cases b
  simp only [Lit.string.injEq] at h
  exact congrArg ByteArray.mk (Array.toList_inj.1 h)

/-- the map holds t at s (0 where it has no such key) -/
def HoldsAt (D : DataW Unit) (s : ByteArray) (t : Int) : Prop := D.atKey (keyS s) (.lit (.int .i64 0)) = .lit (.int .i64 t)

theorem holdsAt_empty (s : ByteArray) : HoldsAt (.map []) s 0 := by
  unfold HoldsAt
  rfl

theorem holdsAt_put_same {w : World} {B n : Nat} {D : DataW Unit} (h : MapAt w B n D) (s : ByteArray) (t : Int) : HoldsAt (D.put (keyS s) (.lit (.int .i64 t))) s t := by
  unfold HoldsAt
  exact atKey_put_same (World.ownsMap.isMap h) (show WideAt.IsKeyLit (keyS s) from trivial) _ _

theorem holdsAt_put_other {D : DataW Unit} {s p : ByteArray} {t u : Int} (hne : p ≠ s) (h : HoldsAt D p t) : HoldsAt (D.put (keyS s) (.lit (.int .i64 u))) p t := by
  unfold HoldsAt
  rw [atKey_put_other (fun e => hne (keyS_inj e))]
  exact h

theorem look_at {w : World} {B n : Nat} {D : DataW Unit} (h : MapAt w B n D) (s : ByteArray) (hs : s.size ≤ maxLen) : ∃ c, (Instr.lookup 35 (.map (some B)) (.string s) false).run Tryd.prog w = .ok (.int .i64 c) w ∧ HoldsAt D s c ∧ (Lit.int .i64 c).wf = true := by
  obtain ⟨c, hrun, hat, hwf⟩ := World.ownsMap.lookup_int h law Tryd.underlying35 Tryd.underlying3 (zeroE w) (keyS_ok s hs)
  exact ⟨c, hrun, hat, hwf⟩

theorem holdsAt_one {D : DataW Unit} {s : ByteArray} {a b : Int} (h1 : HoldsAt D s a) (h2 : HoldsAt D s b) : a = b := by
  unfold HoldsAt at h1 h2
  rw [h1] at h2
  cases h2
  rfl

/-- v is a slice of the strings ss -/
def StrsAt (w : World) (v : Value) (ss : List ByteArray) : Prop :=
  ∃ a cap, v = .slice a ss.length cap ∧ (∀ s ∈ ss, s.size ≤ maxLen) ∧ (ss.length = 0 ∨ ∃ b off, a = some ⟨b, off, none⟩ ∧ b < w.heap.size ∧ ∀ j, j < ss.length → w.cell? ⟨b, off + j, none⟩ = some (.string (ss.getD j ByteArray.empty)))

theorem strsAt_of {w : World} {v : Value} {n : Nat} (h : SlAt IsStr w v n) : ∃ ss : List ByteArray, ss.length = n ∧ StrsAt w v ss := by
  obtain ⟨a, cap, rfl, h⟩ := h
  rcases h with h0 | ⟨b, off, rfl, hlt, hc⟩
  · subst h0
    exact ⟨[], rfl, a, cap, rfl, fun s hs => by simp at hs, Or.inl rfl⟩
  · have hf : ∀ j, ∃ s : ByteArray, j < n → w.cell? ⟨b, off + j, none⟩ = some (.string s) ∧ s.size ≤ maxLen := by
      intro j
      by_cases hj : j < n
      · obtain ⟨x, hx, s, rfl, hs⟩ := hc j hj
        exact ⟨s, fun _ => ⟨hx, hs⟩⟩
      · exact ⟨ByteArray.empty, fun h => absurd h hj⟩
    obtain ⟨f, hf⟩ := Classical.axiomOfChoice hf
    have hl : ((List.range n).map f).length = n := by simp
    refine ⟨(List.range n).map f, hl, some ⟨b, off, none⟩, cap, by rw [hl], fun s hs => ?_, Or.inr ⟨b, off, rfl, hlt, fun j hj => ?_⟩⟩
    · obtain ⟨j, hj, rfl⟩ := List.mem_map.1 hs
      exact (hf j (List.mem_range.1 hj)).2
    · rw [hl] at hj
      rw [(hf j hj).1]
      simp [List.getD_eq_getElem?_getD, hj]
end Go.Proofs.Qxb6603875aDoor
