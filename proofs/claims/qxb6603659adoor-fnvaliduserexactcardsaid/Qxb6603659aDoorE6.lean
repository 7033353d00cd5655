/-
  zzRefused, zzBytes_FnValidUserExact.
-/
import Derived.Test.Qxb6603659aDoorW3
import Derived.Test.Qxb6603659aDoorE0
import Derived.Test.Qxb6603659aDoorPlainE
namespace Go.Proofs.Qxb6603659aDoor
open Go.RowKit
set_option linter.unusedVariables false

set_option maxHeartbeats 1000000 in
theorem bytes1_any (a : ByteArray) (w : World) (ha : a.size ≤ 9223372036854775807) : Calls Tryd.prog 5 #[.string a] w (AnsB True w) := by
  go_enter Tryd.func5, Tryd.ntmps5
  go_wp2
  all_goals first
    | (go_ret; exact ⟨false, rfl, rfl, fun _ => trivial⟩)
    | (go_ret; exact ⟨true, rfl, rfl, fun _ => trivial⟩)

set_option maxRecDepth 1000000 in
set_option maxHeartbeats 2000000 in
theorem refused_any (c : Nat) (w : World) (hc : c ≤ 1114111) : Calls Tryd.prog 13 #[.int .i32 (c : Int)] w fun e w' => e = .returned (.bool (refM c)) ∧ w' = w := by
  generalize hv : refM c = v
  have HV : Hid (refM c = v) := hv
  clear hv
  cases v with
  | true =>
    go_enter Tryd.func13, Tryd.ntmps13
    go_wp2
    all_goals first
      | (go_ret; exact ⟨rfl, rfl⟩)
      | (exfalso; have h := HV.out; unfold refM at h; simp at *; omega)
  | false =>
    have h := HV.out
    unfold refM at h
    simp at h
    obtain ⟨⟨⟨⟨⟨⟨⟨⟨⟨⟨⟨⟨⟨⟨⟨h1, h2⟩, h3⟩, h4⟩, h5⟩, h6⟩, h7⟩, h8⟩, h9⟩, h10⟩, h11⟩, h12⟩, h13⟩, h14⟩, h15⟩, h16⟩ := h
    have g1 : ((c : Int) == 44) = false := beq_eq_false_iff_ne.2 (by omega)
    have g2 : ((c : Int) == 58) = false := beq_eq_false_iff_ne.2 (by omega)
    have g3 : ((c : Int) == 35) = false := beq_eq_false_iff_ne.2 (by omega)
    have g4 : ((c : Int) == 47) = false := beq_eq_false_iff_ne.2 (by omega)
    have g5 : ((c : Int) == 42) = false := beq_eq_false_iff_ne.2 (by omega)
    have g6 : ((c : Int) == 32) = false := beq_eq_false_iff_ne.2 (by omega)
    have g7 : ((c : Int) == 160) = false := beq_eq_false_iff_ne.2 (by omega)
    have g8 : ((c : Int) == 5760) = false := beq_eq_false_iff_ne.2 (by omega)
    have g9 : ((c : Int) == 8232) = false := beq_eq_false_iff_ne.2 (by omega)
    have g10 : ((c : Int) == 8233) = false := beq_eq_false_iff_ne.2 (by omega)
    have g11 : ((c : Int) == 8239) = false := beq_eq_false_iff_ne.2 (by omega)
    have g12 : ((c : Int) == 8287) = false := beq_eq_false_iff_ne.2 (by omega)
    have g13 : ((c : Int) == 12288) = false := beq_eq_false_iff_ne.2 (by omega)
    clear h1 h2 h3 h4 h5 h6 h7 h8 h9 h10 h11 h12 h13
    go_enter Tryd.func13, Tryd.ntmps13
    go_wp2
    all_goals first
      | (go_ret; exact ⟨rfl, rfl⟩)
      | (exfalso; omega)
end Go.Proofs.Qxb6603659aDoor
