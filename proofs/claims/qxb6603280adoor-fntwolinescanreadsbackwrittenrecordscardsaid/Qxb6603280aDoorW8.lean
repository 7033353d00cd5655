/-
  ZZTwoLineStateOf: one region of 65 operations that draws its order.
-/
import Derived.Test.Qxb6603280aDoorW7
import Derived.Deep.RegionHeld3
import Derived.Deep.Light
namespace Go.Proofs.Qxb6603280aDoor
open Go.RowKit
set_option linter.unusedVariables false

set_option maxRecDepth 1000000 in
set_option maxHeartbeats 1000000 in
theorem state_any (sb : Nat) (T : ByteArray) (crlf : Bool) (p l rl : Int) (rh rc re : ByteArray) (w : World)
    (hS : w.heap[sb]? = some (.cells (scan T crlf p l rl rh rc re) 43 (0, 0))) :
    Calls Tryd.prog 10 #[.pointer (some ⟨sb, 0, none⟩)] w fun e w' => e = .returned (.agg (state T crlf p l rl rh rc re)) ∧ Below w.heap.size w w' := by
  have c0 := scan_cell hS 0 (.string T) rfl
  have c1 := scan_cell hS 1 (.bool crlf) rfl
  have c2 := scan_cell hS 2 (.int .i64 p) rfl
  have c3 := scan_cell hS 3 (.int .i64 l) rfl
  have c4 := scan_cell hS 4 (.string ⟨#[]⟩) rfl
  have c5 := scan_cell hS 5 (.int .i64 rl) rfl
  have c6 := scan_cell hS 6 (.string rh) rfl
  have c7 := scan_cell hS 7 (.string rc) rfl
  have c8 := scan_cell hS 8 (.string re) rfl
  have c9 := scan_cell hS 9 (.slice none 0 0) rfl
  have c10 := scan_cell hS 10 (.bool false) rfl
  have c11 := scan_cell hS 11 (.int .i64 0) rfl
  have c12 := scan_cell hS 12 (.int .i64 0) rfl
  have c13 := scan_cell hS 13 (.string ⟨#[]⟩) rfl
  have hsb : sb < w.heap.size := (Array.getElem?_eq_some_iff.1 hS).1
  have hnil := fun wx => Lib.run_eql_slice_nil (P := Tryd.prog) wx 38 91 none 0 0 0 0 Tryd.underlying38
  clear hS
  go_enter Tryd.func10, Tryd.ntmps10
  go_wp2
  simp only [List.append]
  go_region_held3 (fun w' => w'.cell? ⟨sb, 0, none⟩ = some (.string T) ∧ w'.cell? ⟨sb, 1, none⟩ = some (.bool crlf) ∧ w'.cell? ⟨sb, 2, none⟩ = some (.int .i64 p) ∧ w'.cell? ⟨sb, 3, none⟩ = some (.int .i64 l) ∧ w'.cell? ⟨sb, 4, none⟩ = some (.string ⟨#[]⟩) ∧ w'.cell? ⟨sb, 5, none⟩ = some (.int .i64 rl) ∧ w'.cell? ⟨sb, 6, none⟩ = some (.string rh) ∧ w'.cell? ⟨sb, 7, none⟩ = some (.string rc) ∧ w'.cell? ⟨sb, 8, none⟩ = some (.string re) ∧ w'.cell? ⟨sb, 9, none⟩ = some (.slice none 0 0) ∧ w'.cell? ⟨sb, 10, none⟩ = some (.bool false) ∧ w'.cell? ⟨sb, 11, none⟩ = some (.int .i64 0) ∧ w'.cell? ⟨sb, 12, none⟩ = some (.int .i64 0) ∧ w'.cell? ⟨sb, 13, none⟩ = some (.string ⟨#[]⟩)) (go_keep) (fail)
  clear c0 c1 c2 c3 c4 c5 c6 c7 c8 c9 c10 c11 c12 c13 hnil
  rename_i hHeld
  clear hHeld
  go_wp2
  exact bodyPost_ret (v := .agg (state T crlf p l rl rh rc re)) (by simp [results, Tryd.results10, go_sem]) rfl ⟨rfl, ((Below.refl _ _).alloc (Nat.le_refl _) _).drew⟩
end Go.Proofs.Qxb6603280aDoor
