/-
  zzCfgName.
-/
import Derived.Test.Qxb6604153aDoorN4
namespace Go.Proofs.Qxb6604153aDoor
open Go.RowKit Go.Deep
set_option linter.unusedVariables false

def dot : ByteArray := ⟨#[46]⟩
/-- a variable's name -/
def nameOf (r : Rec) : ByteArray := if r.u = ⟨#[]⟩ then r.s ++ dot ++ r.k else r.s ++ dot ++ r.u ++ dot ++ r.k

theorem toList_inj {a b : ByteArray} (h : a.toList = b.toList) : a = b := by
  rw [ByteArray.toList_eq, ByteArray.toList_eq] at h
  cases a; cases b
  exact congrArg ByteArray.mk (Array.toList_inj.1 h)

theorem str_eq (a b : ByteArray) : (a.toList == b.toList) = decide (a = b) := by
  by_cases h : a = b
  · subst h; simp
  · rw [decide_eq_false h, beq_eq_false_iff_ne]
    exact fun e => h (toList_inj e)

def Rec.val (r : Rec) : Value := .agg #[.string r.s, .string r.u, .string r.k, .string r.v, .bool r.i]

def AnsV (v : Value) (w : World) : Ending → World → Prop := fun e w' => e = .returned v ∧ Below w.heap.size w w'

set_option maxRecDepth 100000 in
theorem cfgName_any (r : Rec) (w : World) (hr : r.Small 1048576) : Calls Tryd.prog 11 #[r.val] w (AnsV (.string (nameOf r)) w) := by
  obtain ⟨s, u, k, v, i⟩ := r
  obtain ⟨h0, h1, h2, h3⟩ := hr
  simp only at h0 h1 h2 h3
  by_cases hu : u = ⟨#[]⟩
  · subst hu
    have hn : nameOf ⟨s, ⟨#[]⟩, k, v, i⟩ = s ++ dot ++ k := if_pos rfl
    rw [hn]
    go_enter Tryd.func11, Tryd.ntmps11
    unfold Rec.val
    go_wp2
    go_ret
    exact ⟨rfl, (Below.refl _ _).alloc (Nat.le_refl _) _⟩
  · have hn : nameOf ⟨s, u, k, v, i⟩ = s ++ dot ++ u ++ dot ++ k := if_neg hu
    have he : (u.toList == []) = false := by
      have := str_eq u ⟨#[]⟩
      rw [decide_eq_false hu, ByteArray.toList_eq ⟨#[]⟩] at this
      exact this
    rw [hn]
    go_enter Tryd.func11, Tryd.ntmps11
    unfold Rec.val
    go_wp2
    go_ret
    exact ⟨rfl, (Below.refl _ _).alloc (Nat.le_refl _) _⟩

theorem nameOf_size (r : Rec) (hr : r.Small 1048576) : (nameOf r).size ≤ 4194304 := by
  obtain ⟨h0, h1, h2, h3⟩ := hr
  have hd : dot.size = 1 := rfl
  unfold nameOf
  split <;> simp [ByteArray.size_append, hd] <;> omega
end Go.Proofs.Qxb6604153aDoor
