/-
  THE ROW AND THE TIED CARD OF FnValidUserSidesAlone.
-/
import Derived.Test.Qxb6603659aDoorW4
import Derived.Test.Qxb6603659aDoorDoor
import Derived.Test.Qxb6603659aDoorCards
import Derived.SevenTiedAt
namespace Go.Proofs.Qxb6603659aDoor
open Go.ChangeShapes Go.WideShapes Go.ChangeAt Go.RowKit
open Go.ChangeMaps (open_string shut_string)
set_option linter.unusedVariables false

set_option maxRecDepth 100000 in
theorem sides_lifted (os : Os) (started : os.Started) (H : Type) (enc : TypeId × Value → H) :
    ReturnsInHanded {} Tryd.checked os 4 .any (fun w args => (Rows.fnValidUserSidesAloneSpec.pre enc Tryd.prog Tryd.f4 [] false w args ∧ laidMetH Tryd.prog Rows.fnValidUserSidesAloneRow.laid w) ∧ sizedMet enc Tryd.prog Tryd.f4 (OpenSpec.ofChange Rows.fnValidUserSidesAloneSpec) false w args)
      (Rows.fnValidUserSidesAloneSpec.post enc Tryd.prog Tryd.f4 false true false false) := by
  refine returns_and_shaped (C := Tryd.checked) (X := fun w _ => laidMetH Tryd.prog Rows.fnValidUserSidesAloneRow.laid w) (fun _ _ _ hh h => h.of_heap hh) own started (by kernel_rfl) Tryd.func4
    (ChangeSpec.witness_shaped (enc := enc) (C := Tryd.checked) (os := os) (X := fun w _ => laidMetH Tryd.prog Rows.fnValidUserSidesAloneRow.laid w) false ((World.doorLaid Tryd.prog 43 os).setRow 0 (Lib.firstTab.map (Value.int .u8)).toArray) #[.string ⟨#[]⟩, .string ⟨#[]⟩] 8 rfl (World.shaped_of_RefB (by kernel_rfl) (by kernel_rfl)) (by kernel_rfl) (by kernel_rfl) (by kernel_rfl) (door_met os _)) ?_
  intro W base args ds gs before hval0 hW hL hsh
  have hval : ∀ (j : Nat) t v, Tryd.f4.params[j]? = some t → args[j]? = some v → Value.okWide Tryd.prog W .any base t v := hval0
  have hW' := hW
  obtain ⟨p, q, hA0, hV, rfl, hfz, hnd⟩ := hW
  have hA : DataW.TrodAll enc Tryd.prog W 0 (fun _ => true) true Tryd.f4.params.toList args.toList ds p := hA0
  rw [Tryd.params4] at hA hval
  obtain ⟨v0, v1, d0, d1, p0, p1, rfl, rfl, rfl, h0, h1⟩ := trodAll_two hA
  obtain ⟨rfl, rfl⟩ := trodVars_none hV
  obtain ⟨a, rfl, rfl, rfl, wa⟩ := open_string Tryd.underlying9 (hval 0 9 v0 rfl rfl) h0
  obtain ⟨b, rfl, rfl, rfl, wb⟩ := open_string Tryd.underlying9 (hval 1 9 v1 rfl rfl) h1
  clear hA0 hval0
  refine (sides_walk a b W wa wb (env_of_laid hL hsh)).mono fun e' W' ⟨he, bel⟩ => ?_
  subst he
  exact ⟨_, rfl, _, _, _, [], _, [], hW', trodAll_mk1 (shut_bool Tryd.underlying4 _), (trodAll_cons_mk (shut_string Tryd.underlying9 wa) (trodAll_cons_mk (shut_string Tryd.underlying9 wb) trodAll_mk0)), rfl, bel.frame _, fun h => by cases h⟩

theorem sides_holds : Rows.FnValidUserSidesAloneSaid :=
  OpenClaim.holds_of_wide 4 Tryd.f4 rfl rfl rfl rfl rfl rfl rfl ⟨rfl, rfl, rfl, rfl, rfl⟩ rfl rfl rfl rfl rfl (by kernel_rfl) Tryd.func4 (by kernel_rfl)
    (of_decide_eq_true (by kernel_rfl)) (by unfold Func.isWrapper; first | (rw [if_pos (by decide +kernel)]; kernel_rfl) | (rw [if_neg (by decide +kernel)]; exact ⟨rfl, rfl⟩))
    (fun os started H enc _ => sides_lifted os started H enc)

/-- THE STATEMENT -/
theorem sides_proved : Rows.FnValidUserSidesAloneCardSaid :=
  Claim7.holds_tied_plain_at .later [] [.data, .listed, .data, .pinned] true Rows.fnValidUserSidesAloneCard.stood.harness false
    sides_holds (fun _ h => by cases h) (by kernel_rfl) (fun _ h => by cases h) fnValidUserSidesAlone_row_tie rfl ⟨rfl, rfl⟩ (by kernel_rfl) rfl
    (fun f fn hf hfn => by
      obtain rfl : f = 4 := Option.some.inj ((show Tryd.prog.funcNamed Rows.fnValidUserSidesAloneRow.func = some 4 by kernel_rfl).symm.trans hf) |>.symm
      obtain rfl : fn = Tryd.f4 := (Option.some.inj (Tryd.func4.symm.trans hfn)).symm
      exact ⟨by kernel_rfl, fun j t ht => by
        rw [Tryd.params4] at ht
        rcases j with _ | _ | j
        · obtain rfl : 9 = t := by simpa using ht
          exact (show Tryd.prog.wantsStandIn 9 = false by kernel_rfl)
        · obtain rfl : 9 = t := by simpa using ht
          exact (show Tryd.prog.wantsStandIn 9 = false by kernel_rfl)
        · simp at ht⟩)
    (by kernel_rfl)
end Go.Proofs.Qxb6603659aDoor
