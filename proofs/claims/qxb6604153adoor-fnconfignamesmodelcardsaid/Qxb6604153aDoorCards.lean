/-
  DERIVED. GIVEN WITH THE SEED: THE CARDS: each row of Qxb6604153aDoorRows.lean that lists a variable, with what it lists TIED to the program's text (the seventh form; the later family's looks); each row that meets fmt, with fmt's text TOLD by the authors' own Lean function (tested against real Go, not proved from fmt's source: count such statements apart). THE CARD IS WHAT COUNTS. Prove the row's statement (the work); the ties are given (Qxb6604153aDoorTie.lean); close each card by the builder's one call (the guide's Derived/Test/ToyasCard.lean, 'card_holds'). Laid BY PROGRAM, IN A SANDBOX (cutbox-door.mjs). By AI agents, Wed Nov 11 2026. No macro, syntax, notation, axiom, sorry.
-/
import Derived.Test.Qxb6604153aDoorRows
import GoSem.ClaimSeven
namespace Go.Proofs.Qxb6604153aDoor
namespace Rows

/-- THE TIED CARD OF 'zzlaws_root_b1.FnConfigNamesModel'. -/
def fnConfigNamesModelCard : Claim7 := { stood := { row := fnConfigNamesModelRow, standIns := [], harness := (true, "ee041d4f227a57893abd11126d64b9f90b9c0d8e110db518460b41e2e99791c7"), looks := false }, kinds := [], alts := [], laidByText := true, laidKinds := [.data, .pinned, .pinned], laidTests := true, laidLooks := .later }
def FnConfigNamesModelCardSaid : Prop := Claim7.holds Tryd.pinned (.plain (OpenSpec.ofChange fnConfigNamesModelSpec)) fnConfigNamesModelCard
end Rows
end Go.Proofs.Qxb6604153aDoor
