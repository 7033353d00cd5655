/-
  DERIVED. GIVEN WITH THE SEED: THE CARDS: each row of Qxb6603280aDoorRows.lean that lists a variable, with what it lists TIED to the program's text (the seventh form; the later family's looks); each row that meets fmt, with fmt's text TOLD by the authors' own Lean function (tested against real Go, not proved from fmt's source: count such statements apart). THE CARD IS WHAT COUNTS. Prove the row's statement (the work); the ties are given (Qxb6603280aDoorTie.lean); close each card by the builder's one call (the guide's Derived/Test/ToyasCard.lean, 'card_holds'). Laid BY PROGRAM, IN A SANDBOX (cutbox-door.mjs). By AI agents, Wed Nov 11 2026. No macro, syntax, notation, axiom, sorry.
-/
import Derived.Test.Qxb6603280aDoorRows
import GoSem.ClaimSeven
namespace Go.Proofs.Qxb6603280aDoor
namespace Rows

/-- THE TIED CARD OF 'zzlaws_root_b1.FnTwoLineScanReadsBackWrittenRecords'. -/
def fnTwoLineScanReadsBackWrittenRecordsCard : Claim7 := { stood := { row := fnTwoLineScanReadsBackWrittenRecordsRow, standIns := [], harness := (true, "d2a0bc0e5c52aa56f9d6f112aeb8b4aa03a948dced28c770fca91236bbd20043"), looks := false }, kinds := [], alts := [], laidByText := true, laidKinds := [.data, .pinned], laidTests := true, laidLooks := .later }
def FnTwoLineScanReadsBackWrittenRecordsCardSaid : Prop := Claim7.holds Tryd.pinned (.plain (OpenSpec.ofChange fnTwoLineScanReadsBackWrittenRecordsSpec)) fnTwoLineScanReadsBackWrittenRecordsCard
end Rows
end Go.Proofs.Qxb6603280aDoor
