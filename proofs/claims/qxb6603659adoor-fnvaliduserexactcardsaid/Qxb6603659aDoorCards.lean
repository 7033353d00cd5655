/-
  DERIVED. GIVEN WITH THE SEED: THE CARDS: each row of Qxb6603659aDoorRows.lean that lists a variable, with what it lists TIED to the program's text (the seventh form; the later family's looks); each row that meets fmt, with fmt's text TOLD by the authors' own Lean function (tested against real Go, not proved from fmt's source: count such statements apart). THE CARD IS WHAT COUNTS. Prove the row's statement (the work); the ties are given (Qxb6603659aDoorTie.lean); close each card by the builder's one call (the guide's Derived/Test/ToyasCard.lean, 'card_holds'). Laid BY PROGRAM, IN A SANDBOX (cutbox-door.mjs). By AI agents, Wed Nov 11 2026. No macro, syntax, notation, axiom, sorry.
-/
import Derived.Test.Qxb6603659aDoorRows
import GoSem.ClaimSeven
namespace Go.Proofs.Qxb6603659aDoor
namespace Rows

/-- THE TIED CARD OF 'zzlaws_root_b1.FnValidUserExact'. -/
def fnValidUserExactCard : Claim7 := { stood := { row := fnValidUserExactRow, standIns := [], harness := (true, "ae978a5cbbe9db2086bfbf31945cfae193dde26dbe33e7368eee4161a80abbdf"), looks := false }, kinds := [], alts := [], laidByText := true, laidKinds := [.data, .listed, .data, .pinned], laidTests := true, laidLooks := .later }
def FnValidUserExactCardSaid : Prop := Claim7.holds Tryd.pinned (.plain (OpenSpec.ofChange fnValidUserExactSpec)) fnValidUserExactCard

/-- THE TIED CARD OF 'zzlaws_root_b1.FnValidUserSidesAlone'. -/
def fnValidUserSidesAloneCard : Claim7 := { stood := { row := fnValidUserSidesAloneRow, standIns := [], harness := (true, "ae978a5cbbe9db2086bfbf31945cfae193dde26dbe33e7368eee4161a80abbdf"), looks := false }, kinds := [], alts := [], laidByText := true, laidKinds := [.data, .listed, .data, .pinned], laidTests := true, laidLooks := .later }
def FnValidUserSidesAloneCardSaid : Prop := Claim7.holds Tryd.pinned (.plain (OpenSpec.ofChange fnValidUserSidesAloneSpec)) fnValidUserSidesAloneCard
end Rows
end Go.Proofs.Qxb6603659aDoor
