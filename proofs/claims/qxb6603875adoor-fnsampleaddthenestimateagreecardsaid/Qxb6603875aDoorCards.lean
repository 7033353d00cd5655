/-
  DERIVED. GIVEN WITH THE SEED: THE CARDS: each row of Qxb6603875aDoorRows.lean that lists a variable, with what it lists TIED to the program's text (the seventh form; the later family's looks); each row that meets fmt, with fmt's text TOLD by the authors' own Lean function (tested against real Go, not proved from fmt's source: count such statements apart). THE CARD IS WHAT COUNTS. Prove the row's statement (the work); the ties are given (Qxb6603875aDoorTie.lean); close each card by the builder's one call (the guide's Derived/Test/ToyasCard.lean, 'card_holds'). Laid BY PROGRAM, IN A SANDBOX (cutbox-door.mjs). By AI agents, Wed Nov 11 2026. No macro, syntax, notation, axiom, sorry.
-/
import Derived.Test.Qxb6603875aDoorRows
import GoSem.ClaimSeven
namespace Go.Proofs.Qxb6603875aDoor
namespace Rows

/-- THE TIED CARD OF 'zzlaws_filter_b1.FnAtomKeyTellsContainsAtomsApart'. -/
def fnAtomKeyTellsContainsAtomsApartCard : Claim7 := { stood := { row := fnAtomKeyTellsContainsAtomsApartRow, standIns := [], harness := (true, "fa9ad876c5bf283fe3241b5ad498a5fa795dbaa3431eb89b03d9bb5d85de1d24"), looks := false }, kinds := [], alts := [], laidByText := true, laidKinds := [.data, .data, .data, .data, .pinned, .pinned], laidTests := true, laidLooks := .later }
def FnAtomKeyTellsContainsAtomsApartCardSaid : Prop := Claim7.holds Tryd.pinned (.plain (OpenSpec.ofChange fnAtomKeyTellsContainsAtomsApartSpec)) fnAtomKeyTellsContainsAtomsApartCard

/-- THE TIED CARD OF 'zzlaws_filter_b1.FnSampleAddWhole'. -/
def fnSampleAddWholeCard : Claim7 := { stood := { row := fnSampleAddWholeRow, standIns := [], harness := (true, "fa9ad876c5bf283fe3241b5ad498a5fa795dbaa3431eb89b03d9bb5d85de1d24"), looks := false }, kinds := [], alts := [], laidByText := true, laidKinds := [.data, .data, .data, .data, .pinned, .pinned], laidTests := true, laidLooks := .later }
def FnSampleAddWholeCardSaid : Prop := Claim7.holds Tryd.pinned (.plain (OpenSpec.ofChange fnSampleAddWholeSpec)) fnSampleAddWholeCard

/-- THE TIED CARD OF 'zzlaws_filter_b1.FnSampleAddThenEstimateAgree'. -/
def fnSampleAddThenEstimateAgreeCard : Claim7 := { stood := { row := fnSampleAddThenEstimateAgreeRow, standIns := [], harness := (true, "fa9ad876c5bf283fe3241b5ad498a5fa795dbaa3431eb89b03d9bb5d85de1d24"), looks := false }, kinds := [], alts := [], laidByText := true, laidKinds := [.data, .data, .data, .data, .pinned, .pinned], laidTests := true, laidLooks := .later }
def FnSampleAddThenEstimateAgreeCardSaid : Prop := Claim7.holds Tryd.pinned (.plain (OpenSpec.ofChange fnSampleAddThenEstimateAgreeSpec)) fnSampleAddThenEstimateAgreeCard

/-- THE TIED CARD OF 'zzlaws_filter_b1.FnSampleEstimateTextComparison'. -/
def fnSampleEstimateTextComparisonCard : Claim7 := { stood := { row := fnSampleEstimateTextComparisonRow, standIns := [], harness := (true, "fa9ad876c5bf283fe3241b5ad498a5fa795dbaa3431eb89b03d9bb5d85de1d24"), looks := false }, kinds := [], alts := [], laidByText := true, laidKinds := [.data, .data, .data, .data, .pinned, .pinned], laidTests := true, laidLooks := .later }
def FnSampleEstimateTextComparisonCardSaid : Prop := Claim7.holds Tryd.pinned (.plain (OpenSpec.ofChange fnSampleEstimateTextComparisonSpec)) fnSampleEstimateTextComparisonCard

/-- THE TIED CARD OF 'zzlaws_filter_b1.FnSampleEstimateContainsShareInUnitAndShrinks'. -/
def fnSampleEstimateContainsShareInUnitAndShrinksCard : Claim7 := { stood := { row := fnSampleEstimateContainsShareInUnitAndShrinksRow, standIns := [], harness := (true, "fa9ad876c5bf283fe3241b5ad498a5fa795dbaa3431eb89b03d9bb5d85de1d24"), looks := false }, kinds := [], alts := [], laidByText := true, laidKinds := [.data, .data, .data, .data, .pinned, .pinned], laidTests := true, laidLooks := .later }
def FnSampleEstimateContainsShareInUnitAndShrinksCardSaid : Prop := Claim7.holds Tryd.pinned (.plain (OpenSpec.ofChange fnSampleEstimateContainsShareInUnitAndShrinksSpec)) fnSampleEstimateContainsShareInUnitAndShrinksCard
end Rows
end Go.Proofs.Qxb6603875aDoor
