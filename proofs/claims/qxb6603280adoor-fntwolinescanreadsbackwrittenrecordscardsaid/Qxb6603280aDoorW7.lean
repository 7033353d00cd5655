/-
  The scanner's maker, its reader, next at the text's end, and the wrappers.
-/
import Derived.Test.Qxb6603280aDoorW6
namespace Go.Proofs.Qxb6603280aDoor
open Go.RowKit
set_option linter.unusedVariables false

set_option maxRecDepth 1000000 in
set_option maxHeartbeats 1000000 in
theorem next_end (sb : Nat) (T : ByteArray) (crlf : Bool) (l rl : Int) (rh rc re : ByteArray) (w : World)
    (hS : w.heap[sb]? = some (.cells (scan T crlf (T.size : Int) l rl rh rc re) 43 (0, 0))) :
    Calls Tryd.prog 14 #[.pointer (some ⟨sb, 0, none⟩)] w fun e w' => e = .returned (.bool false) ∧ Below w.heap.size w w' := by
  have c0 := scan_cell hS 0 _ rfl
  have c2 := scan_cell hS 2 _ rfl
  have hq : ((T.size : Int) == (T.size : Int)) = true := by simp
  have hB := Below.refl w.heap.size w
  clear hS
  go_enter Tryd.func14, Tryd.ntmps14
  go_wp2
  go_quiet (fail)
  go_wp2
  go_ret
  exact ⟨rfl, below_drewN hB _⟩

theorem wrap_rec (sb : Nat) (T hB bB eB cB : ByteArray) (crlf : Bool) (pre post : List UInt8) (l rl : Int) (rh rc re : ByteArray) (w : World)
    (hS : w.heap[sb]? = some (.cells (scan T crlf (pre.length : Int) l rl rh rc re) 43 (0, 0))) (hE : Env w) (h3 : 3 ≤ sb)
    (hT : T.data.toList = pre ++ (recL crlf hB.data.toList bB.data.toList eB.data.toList ++ post)) (hTs : T.size ≤ 1048576)
    (hc : cB.data.toList = 123 :: (bB.data.toList ++ [125])) (hh : HostOK hB.data.toList) (hb : NoLF bB.data.toList) (he : NoLF eB.data.toList) (hl0 : 0 ≤ l) (hl1 : l ≤ 1048576) :
    Calls Tryd.prog 9 #[.pointer (some ⟨sb, 0, none⟩)] w fun e w' => e = .returned (.bool true) ∧
      w'.heap[sb]? = some (.cells (scan T crlf ((pre ++ recL crlf hB.data.toList bB.data.toList eB.data.toList).length : Int) (l + 2) l hB cB eB) 43 (0, 0)) ∧ Below sb w w' := by
  have H := next_rec sb T hB bB eB cB crlf pre post l rl rh rc re w hS hE h3 hT hTs hc hh hb he hl0 hl1
  have HH : Hid _ := H
  clear H hS hE hT hc
  go_enter Tryd.func9, Tryd.ntmps9
  go_wp2_with (go_at_call 14; go_must (refine Calls.mono HH.out ?_); rintro e w' ⟨rfl, h1, h2⟩)
  go_ret
  exact ⟨rfl, h1, h2⟩

theorem wrap_end (sb : Nat) (T : ByteArray) (crlf : Bool) (l rl : Int) (rh rc re : ByteArray) (w : World)
    (hS : w.heap[sb]? = some (.cells (scan T crlf (T.size : Int) l rl rh rc re) 43 (0, 0))) :
    Calls Tryd.prog 9 #[.pointer (some ⟨sb, 0, none⟩)] w fun e w' => e = .returned (.bool false) ∧ Below w.heap.size w w' := by
  have HH : Hid _ := next_end sb T crlf l rl rh rc re w hS
  clear hS
  go_enter Tryd.func9, Tryd.ntmps9
  go_wp2_with (go_at_call 14; go_must (refine Calls.mono HH.out ?_); rintro e w' ⟨rfl, h1⟩)
  go_ret
  exact ⟨rfl, h1⟩

set_option maxRecDepth 1000000 in
set_option maxHeartbeats 1000000 in
theorem new_any (T : ByteArray) (crlf : Bool) (w : World) :
    Calls Tryd.prog 8 #[.string T, .bool crlf, .int .i64 0, .int .i64 1, .int .i64 0, .int .i64 0, .string ⟨#[]⟩, .string ⟨#[]⟩, .int .i64 0, .string ⟨#[]⟩, .string ⟨#[]⟩, .string ⟨#[]⟩] w fun e w' =>
      e = .returned (.pointer (some ⟨w.heap.size, 0, none⟩)) ∧ w' = w.alloc (.cells (scan T crlf 0 1 0 ⟨#[]⟩ ⟨#[]⟩ ⟨#[]⟩) 43) := by
  go_enter Tryd.func8, Tryd.ntmps8
  go_wp2
  go_ret
  exact ⟨rfl, rfl⟩

/-- what ZZTwoLineStateOf reads -/
abbrev state (T : ByteArray) (crlf : Bool) (p l rl : Int) (rh rc re : ByteArray) : Array Value :=
  #[.string T, .bool crlf, .int .i64 p, .int .i64 l, .string ⟨#[]⟩, .int .i64 rl, .string rh, .string rc, .string re, .bool true, .bool false, .int .i64 0, .int .i64 0, .string ⟨#[]⟩]

end Go.Proofs.Qxb6603280aDoor
