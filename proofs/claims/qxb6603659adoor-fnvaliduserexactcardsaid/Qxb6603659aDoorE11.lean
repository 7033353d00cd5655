/-
  The law FnValidUserExact.
-/
import Derived.Test.Qxb6603659aDoorE5
import Derived.Test.Qxb6603659aDoorE10
namespace Go.Proofs.Qxb6603659aDoor
open Go.RowKit
set_option linter.unusedVariables false

set_option maxRecDepth 1000000 in
set_option maxHeartbeats 1000000 in
theorem exact_walk (s : ByteArray) (w : World) (hs : s.size ≤ 9223372036854775807) (hE : Env w) : Calls Tryd.prog 3 #[.string s] w (AnsL w) := by
  by_cases hl : s.size ≤ 1048576
  · have hU := zzuser_any s w (by omega) hE
    have hM := fun (wx : World) => model_any s wx hl (fun i wy hi => dec_any s i wy hl hi)
    generalize VU s.data.toList = v at *
    have HU : Hid _ := hU
    have HM : Hid _ := hM
    clear hU hM
    go_enter Tryd.func3, Tryd.ntmps3
    go_wp2_with (go_at_call 5; go_must (refine (bytes1_any s _ hs).mono ?_); rintro e w' ⟨b, rfl, hw', _⟩; obtain rfl := hw'.symm)
    · go_ret; exact ⟨rfl, Below.refl _ _⟩
    refine Calls.mono HU.out ?_
    rintro e w1 ⟨rfl, b1⟩
    go_wp2_with fail
    refine Calls.mono (HM.out _) ?_
    rintro e w2 ⟨rfl, hw2⟩
    obtain rfl := hw2.symm
    go_wp2
    go_ret
    exact ⟨by simp, b1⟩
  · go_enter Tryd.func3, Tryd.ntmps3
    go_wp2_with (go_at_call 5; go_must (refine (bytes1_any s _ hs).mono ?_); rintro e w' ⟨b, rfl, hw', _⟩; obtain rfl := hw'.symm)
    all_goals
      go_ret
      exact ⟨rfl, Below.refl _ _⟩
end Go.Proofs.Qxb6603659aDoor
