/-
  Slices of variables that are read; the bounds: zzBytes_FnConfigNamesModel.
-/
import Derived.Test.Qxb6604153aDoorRows
import Derived.WalkKit
import Derived.WalkSpells
import Derived.WalkLawsBesides
import Derived.Deep.OwnRows
import Derived.Deep.QuietTactic
import Derived.Maps.Own
import Derived.Maps.OwnOps
namespace Go.Proofs.Qxb6604153aDoor
open Go.RowKit
set_option linter.unusedVariables false

/-- a variable of a config -/
structure Rec where
  s : ByteArray
  u : ByteArray
  k : ByteArray
  v : ByteArray
  i : Bool

def Rec.none : Rec := ⟨ByteArray.empty, ByteArray.empty, ByteArray.empty, ByteArray.empty, false⟩

def recAt (rs : List Rec) (j : Nat) : Rec := rs.getD j Rec.none

/-- the five cells of a variable -/
structure RecAt (w : World) (b o : Nat) (r : Rec) : Prop where
  c0 : w.cell? ⟨b, o, none⟩ = some (.string r.s)
  c1 : w.cell? ⟨b, o + 1, none⟩ = some (.string r.u)
  c2 : w.cell? ⟨b, o + 2, none⟩ = some (.string r.k)
  c3 : w.cell? ⟨b, o + 3, none⟩ = some (.string r.v)
  c4 : w.cell? ⟨b, o + 4, none⟩ = some (.bool r.i)

/-- v is a slice of the variables rs -/
def RecsAt (w : World) (v : Value) (rs : List Rec) : Prop :=
  ∃ a cap, v = .slice a rs.length cap ∧ (rs.length = 0 ∨ ∃ b off, a = some ⟨b, off, none⟩ ∧ b < w.heap.size ∧ ∀ j, j < rs.length → RecAt w b (off + j * 5) (recAt rs j))

/-- each text is of n bytes at most -/
structure Rec.Small (r : Rec) (n : Nat) : Prop where
  s : r.s.size ≤ n
  u : r.u.size ≤ n
  k : r.k.size ≤ n
  v : r.v.size ≤ n

def AnsBQ (Q : Prop) (w : World) : Ending → World → Prop := fun e w' => ∃ b : Bool, e = .returned (.bool b) ∧ w' = w ∧ (b = true → Q)

set_option maxRecDepth 100000 in
set_option maxHeartbeats 2000000 in
theorem zzBytes_any (v : Value) (rs : List Rec) (p : ByteArray) (w : World) (h : RecsAt w v rs) (hs : ∀ j, j < rs.length → (recAt rs j).Small 9223372036854775807) (bl : rs.length ≤ 9223372036854775807) (bp : p.size ≤ 9223372036854775807) :
    Calls Tryd.prog 4 #[v, .string p] w (AnsBQ (∀ j, j < rs.length → (recAt rs j).Small 1048576) w) := by
  obtain ⟨a, cap, rfl, h⟩ := h
  have H : Hid _ := h
  have HS : Hid _ := hs
  clear h hs
  generalize hn : rs.length = n at *
  go_enter Tryd.func4, Tryd.ntmps4
  go_wp2
  all_goals first
    | (go_ret; exact ⟨false, rfl, rfl, by intro h; cases h⟩)
    | skip
  go_loop [5, 6] (fun z i => ∃ (k : Nat) (y : Int), k ≤ n ∧ i = .int .i64 k ∧ z = .int .i64 y ∧ 0 ≤ y ∧ y ≤ 1048576 ∧ Hid (∀ j, j < k → (recAt rs j).Small 1048576)) (fun _ i => n - (intOf i).toNat)
  case atStart => exact ⟨0, _, Nat.zero_le _, rfl, rfl, by omega, by omega, fun j hj => absurd hj (Nat.not_lt_zero _)⟩
  case round =>
    obtain ⟨k, y, hk, rfl, rfl, y0, y1, HK⟩ := hrel
    by_cases hkl : k < n
    · rcases H.out with e | ⟨b, off, rfl, hlt, hc⟩
      · exact absurd hkl (by omega)
      · obtain ⟨c0, c1, c2, c3, c4⟩ := hc k hkl
        obtain ⟨s0, s1, s2, s3⟩ := HS.out k hkl
        clear hc
        have HN : Hid (∀ (h0 : (recAt rs k).s.size ≤ 1048576) (h1 : (recAt rs k).u.size ≤ 1048576) (h2 : (recAt rs k).k.size ≤ 1048576) (h3 : (recAt rs k).v.size ≤ 1048576) (j), j < k + 1 → (recAt rs j).Small 1048576) := by
          intro h0 h1 h2 h3 j hj
          by_cases hjk : j < k
          · exact HK.out j hjk
          · have : j = k := by omega
            subst this
            exact ⟨h0, h1, h2, h3⟩
        generalize recAt rs k = r at *
        clear HK
        go_wp2
        all_goals first
          | (go_ret; exact ⟨false, rfl, rfl, by intro h; cases h⟩)
          | exact ⟨⟨k + 1, _, by omega, by go_num, rfl, by omega, by omega, HN.out (by omega) (by omega) (by omega) (by omega)⟩, by simp [intOf]; omega⟩
    · have hkk : k = n := by omega
      subst hkk
      go_wp2
      all_goals first
        | (go_ret; exact ⟨false, rfl, rfl, by intro h; cases h⟩)
        | (go_ret; exact ⟨true, rfl, rfl, fun _ => HK.out⟩)
end Go.Proofs.Qxb6604153aDoor
