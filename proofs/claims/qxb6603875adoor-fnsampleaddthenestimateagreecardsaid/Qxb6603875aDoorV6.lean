/-
  (*sample).estimate at a comparison of the empty text, and at a like.
-/
import Derived.Test.Qxb6603875aDoorV5
import Derived.Deep.RegionHeld3
namespace Go.Proofs.Qxb6603875aDoor
open Go.RowKit Go.Maps Go.WideMaps
set_option linter.unusedVariables false

theorem zeroE (w : World) : (zeroValue 3).run Tryd.prog w = .ok (.int .i64 0) w := by kernel_rfl

theorem MapAt.below {w w' : World} {B n : Nat} {D : DataW Unit} (h : MapAt w B n D) (hb : Below w.heap.size w w') : MapAt w' B n D := by
  have hlt := World.ownsMap.lt h
  obtain ⟨es, clock, hbk, F, hs, hD⟩ := h
  exact ⟨es, clock, (hb.block B hlt).trans hbk, F, hs, hD⟩

/-- the key "" -/
def noKey : Lit := .string []
theorem noKey_ok : keyOf Tryd.prog 9 (.string ⟨#[]⟩) = some noKey := keyOf_string_mk Tryd.underlying9 (by decide)

/-- the map holds t at "" (0 where it has no such key) -/
def Holds (D : DataW Unit) (t : Int) : Prop := D.atKey noKey (.lit (.int .i64 0)) = .lit (.int .i64 t)

theorem look_empty {w : World} {B n : Nat} {D : DataW Unit} {t : Int} (h : MapAt w B n D) (ht : Holds D t) : (Instr.lookup 35 (.map (some B)) (.string ⟨#[]⟩) false).run Tryd.prog w = .ok (.int .i64 t) w := by
  obtain ⟨c, hrun, hat, _⟩ := World.ownsMap.lookup_int h law Tryd.underlying35 Tryd.underlying3 (zeroE w) noKey_ok
  unfold Holds at ht
  rw [ht] at hat
  cases hat
  exact hrun

/-- what estimate reads: the sample in block S, the atom in block A -/
structure Reads (w : World) (S A B n : Nat) (D : DataW Unit) (cmp kind op : Int) : Prop where
  ltS : S < w.heap.size
  ltA : A < w.heap.size
  texts : w.cell? ⟨S, 1, none⟩ = some (.map (some B))
  compared : w.cell? ⟨S, 2, none⟩ = some (.int .i64 cmp)
  kind : w.cell? ⟨A, 0, none⟩ = some (.int .u8 kind)
  op : w.cell? ⟨A, 2, none⟩ = some (.int .u8 op)
  c0 : w.cell? ⟨A, 3, none⟩ = some (.string ⟨#[]⟩)
  c1 : w.cell? ⟨A, 4, none⟩ = some (.float .f64 0)
  c2 : w.cell? ⟨A, 5, none⟩ = some (.int .i64 0)
  c3 : w.cell? ⟨A, 6, none⟩ = some (.int .i32 0)
  c4 : w.cell? ⟨A, 7, none⟩ = some (.int .u8 0)
  c5 : w.cell? ⟨A, 8, none⟩ = some (.bool false)
  c6 : w.cell? ⟨A, 9, none⟩ = some (.bool false)
  c7 : w.cell? ⟨A, 10, none⟩ = some (.bool false)
  map : MapAt w B n D

theorem Reads.below {w w' : World} {S A B n : Nat} {D : DataW Unit} {cmp kind op : Int} (h : Reads w S A B n D cmp kind op) (hb : Below w.heap.size w w') : Reads w' S A B n D cmp kind op where
  ltS := Nat.lt_of_lt_of_le h.ltS hb.size
  ltA := Nat.lt_of_lt_of_le h.ltA hb.size
  texts := (hb.cell (by exact h.ltS)).trans h.texts
  compared := (hb.cell (by exact h.ltS)).trans h.compared
  kind := (hb.cell (by exact h.ltA)).trans h.kind
  op := (hb.cell (by exact h.ltA)).trans h.op
  c0 := (hb.cell (by exact h.ltA)).trans h.c0
  c1 := (hb.cell (by exact h.ltA)).trans h.c1
  c2 := (hb.cell (by exact h.ltA)).trans h.c2
  c3 := (hb.cell (by exact h.ltA)).trans h.c3
  c4 := (hb.cell (by exact h.ltA)).trans h.c4
  c5 := (hb.cell (by exact h.ltA)).trans h.c5
  c6 := (hb.cell (by exact h.ltA)).trans h.c6
  c7 := (hb.cell (by exact h.ltA)).trans h.c7
  map := h.map.below hb

set_option maxRecDepth 100000 in
set_option maxHeartbeats 1000000 in
theorem estimate_like (S A B n : Nat) (D : DataW Unit) (cmp op : Int) (w : World) (h : Reads w S A B n D cmp 3 op) :
    Calls Tryd.prog 29 #[.pointer (some ⟨S, 0, none⟩), .pointer (some ⟨A, 0, none⟩)] w (AnsV (.float .f64 4602678819172646912) w) := by
  have hk := h.kind
  clear h
  go_enter Tryd.func29, Tryd.ntmps29
  go_wp2
  go_ret
  exact ⟨rfl, Below.refl _ _⟩

set_option maxRecDepth 100000 in
set_option maxHeartbeats 2000000 in
theorem estimate_eq (S A B n : Nat) (D : DataW Unit) (cmp kind t : Int) (r : Nat) (w : World) (h : Reads w S A B n D cmp kind 1) (hk2 : kind ≠ 2) (hk3 : kind ≠ 3) (ht : Holds D t)
    (hr : floatBits .quo .f64 (floatOfInt .f64 t) (floatOfInt .f64 cmp) = some r) :
    Calls Tryd.prog 29 #[.pointer (some ⟨S, 0, none⟩), .pointer (some ⟨A, 0, none⟩)] w (AnsV (.float .f64 r) w) := by
  have e2 : (kind == 2) = false := beq_eq_false_iff_ne.2 hk2
  have e3 : (kind == 3) = false := beq_eq_false_iff_ne.2 hk3
  have HH : Hid (Reads w S A B n D cmp kind 1) := h
  have HT : Hid (Holds D t) := ht
  have hd := fun (w : World) => run_float_arith (P := Tryd.prog) w .quo 40 .f64 _ _ _ hr
  clear hr
  clear ht hk2 hk3
  obtain ⟨_, _, _, _, hkind, _, c0, c1, c2, c3, c4, c5, c6, c7, _⟩ := h
  go_enter Tryd.func29, Tryd.ntmps29
  go_wp2_with (go_at_call 33; go_must (refine (number_zero _).mono ?_); rintro e w1 ⟨rfl, hb1⟩)
  have HR : Hid (Reads w1 S A B n D cmp kind 1) := HH.out.below hb1
  clear hkind c0 c1 c2 c3 c4 c5 c6 c7 HH
  have HK : Hid (∀ w', Below w1.heap.size w1 w' → (fun w' => w'.cell? ⟨S, 1, none⟩ = some (.map (some B)) ∧ w'.cell? ⟨A, 3, none⟩ = some (.string ⟨#[]⟩) ∧ w'.cell? ⟨A, 4, none⟩ = some (.float .f64 0) ∧ w'.cell? ⟨A, 5, none⟩ = some (.int .i64 0) ∧ w'.cell? ⟨A, 6, none⟩ = some (.int .i32 0) ∧ w'.cell? ⟨A, 7, none⟩ = some (.int .u8 0) ∧ w'.cell? ⟨A, 8, none⟩ = some (.bool false) ∧ w'.cell? ⟨A, 9, none⟩ = some (.bool false) ∧ w'.cell? ⟨A, 10, none⟩ = some (.bool false) ∧ (Instr.lookup 35 (.map (some B)) (.string ⟨#[]⟩) false).run Tryd.prog w' = .ok (.int .i64 t) w') w') := by
    intro w' hb
    have R := HR.out.below hb
    exact ⟨R.texts, R.c0, R.c1, R.c2, R.c3, R.c4, R.c5, R.c6, R.c7, look_empty R.map HT.out⟩
  go_region_held3 (fun w' => w'.cell? ⟨S, 1, none⟩ = some (.map (some B)) ∧ w'.cell? ⟨A, 3, none⟩ = some (.string ⟨#[]⟩) ∧ w'.cell? ⟨A, 4, none⟩ = some (.float .f64 0) ∧ w'.cell? ⟨A, 5, none⟩ = some (.int .i64 0) ∧ w'.cell? ⟨A, 6, none⟩ = some (.int .i32 0) ∧ w'.cell? ⟨A, 7, none⟩ = some (.int .u8 0) ∧ w'.cell? ⟨A, 8, none⟩ = some (.bool false) ∧ w'.cell? ⟨A, 9, none⟩ = some (.bool false) ∧ w'.cell? ⟨A, 10, none⟩ = some (.bool false) ∧ (Instr.lookup 35 (.map (some B)) (.string ⟨#[]⟩) false).run Tryd.prog w' = .ok (.int .i64 t) w') (first | exact HK.out _ hB3 | exact HK.out _ ((Below.refl _ _).drew)) ((go_at_call 32; refine (text_zero _).mono ?_; rintro e w3 ⟨rfl, hb3⟩; have hB3 : Below w1.heap.size w1 w3 := ((Below.refl _ _).drew).trans hb3))
  have R3 := HR.out.below hB3
  have hop := R3.op
  have hcmp := R3.compared
  clear R3 HR HK HT
  rename_i hHeld
  clear hHeld
  go_wp2
  go_ret
  exact ⟨rfl, hb1.trans (hB3.mono hb1.size)⟩

set_option maxRecDepth 100000 in
set_option maxHeartbeats 2000000 in
theorem estimate_ne (S A B n : Nat) (D : DataW Unit) (cmp kind t : Int) (r : Nat) (w : World) (h : Reads w S A B n D cmp kind 2) (hk2 : kind ≠ 2) (hk3 : kind ≠ 3) (ht : Holds D t)
    (hr : floatBits .quo .f64 (floatOfInt .f64 (cmp - t)) (floatOfInt .f64 cmp) = some r) (g0 : 0 ≤ t) (g1 : t ≤ cmp) (g2 : cmp ≤ 9223372036854775807) :
    Calls Tryd.prog 29 #[.pointer (some ⟨S, 0, none⟩), .pointer (some ⟨A, 0, none⟩)] w (AnsV (.float .f64 r) w) := by
  have e2 : (kind == 2) = false := beq_eq_false_iff_ne.2 hk2
  have e3 : (kind == 3) = false := beq_eq_false_iff_ne.2 hk3
  have HH : Hid (Reads w S A B n D cmp kind 2) := h
  have HT : Hid (Holds D t) := ht
  have hd := fun (w : World) => run_float_arith (P := Tryd.prog) w .quo 40 .f64 _ _ _ hr
  clear hr
  clear ht hk2 hk3
  obtain ⟨_, _, _, _, hkind, _, c0, c1, c2, c3, c4, c5, c6, c7, _⟩ := h
  go_enter Tryd.func29, Tryd.ntmps29
  go_wp2_with (go_at_call 33; go_must (refine (number_zero _).mono ?_); rintro e w1 ⟨rfl, hb1⟩)
  have HR : Hid (Reads w1 S A B n D cmp kind 2) := HH.out.below hb1
  clear hkind c0 c1 c2 c3 c4 c5 c6 c7 HH
  have HK : Hid (∀ w', Below w1.heap.size w1 w' → (fun w' => w'.cell? ⟨S, 1, none⟩ = some (.map (some B)) ∧ w'.cell? ⟨A, 3, none⟩ = some (.string ⟨#[]⟩) ∧ w'.cell? ⟨A, 4, none⟩ = some (.float .f64 0) ∧ w'.cell? ⟨A, 5, none⟩ = some (.int .i64 0) ∧ w'.cell? ⟨A, 6, none⟩ = some (.int .i32 0) ∧ w'.cell? ⟨A, 7, none⟩ = some (.int .u8 0) ∧ w'.cell? ⟨A, 8, none⟩ = some (.bool false) ∧ w'.cell? ⟨A, 9, none⟩ = some (.bool false) ∧ w'.cell? ⟨A, 10, none⟩ = some (.bool false) ∧ (Instr.lookup 35 (.map (some B)) (.string ⟨#[]⟩) false).run Tryd.prog w' = .ok (.int .i64 t) w') w') := by
    intro w' hb
    have R := HR.out.below hb
    exact ⟨R.texts, R.c0, R.c1, R.c2, R.c3, R.c4, R.c5, R.c6, R.c7, look_empty R.map HT.out⟩
  go_region_held3 (fun w' => w'.cell? ⟨S, 1, none⟩ = some (.map (some B)) ∧ w'.cell? ⟨A, 3, none⟩ = some (.string ⟨#[]⟩) ∧ w'.cell? ⟨A, 4, none⟩ = some (.float .f64 0) ∧ w'.cell? ⟨A, 5, none⟩ = some (.int .i64 0) ∧ w'.cell? ⟨A, 6, none⟩ = some (.int .i32 0) ∧ w'.cell? ⟨A, 7, none⟩ = some (.int .u8 0) ∧ w'.cell? ⟨A, 8, none⟩ = some (.bool false) ∧ w'.cell? ⟨A, 9, none⟩ = some (.bool false) ∧ w'.cell? ⟨A, 10, none⟩ = some (.bool false) ∧ (Instr.lookup 35 (.map (some B)) (.string ⟨#[]⟩) false).run Tryd.prog w' = .ok (.int .i64 t) w') (first | exact HK.out _ hB3 | exact HK.out _ ((Below.refl _ _).drew)) ((go_at_call 32; refine (text_zero _).mono ?_; rintro e w3 ⟨rfl, hb3⟩; have hB3 : Below w1.heap.size w1 w3 := ((Below.refl _ _).drew).trans hb3))
  have R3 := HR.out.below hB3
  have hop := R3.op
  have hcmp := R3.compared
  clear R3 HR HK HT
  rename_i hHeld
  clear hHeld
  go_wp2
  go_ret
  exact ⟨rfl, hb1.trans (hB3.mono hb1.size)⟩

set_option maxRecDepth 100000 in
set_option maxHeartbeats 2000000 in
theorem estimate_other (S A B n : Nat) (D : DataW Unit) (cmp kind t : Int) (op : Int) (w : World) (h : Reads w S A B n D cmp kind op) (hk2 : kind ≠ 2) (hk3 : kind ≠ 3) (ht : Holds D t) (ho1 : op ≠ 1) (ho2 : op ≠ 2) :
    Calls Tryd.prog 29 #[.pointer (some ⟨S, 0, none⟩), .pointer (some ⟨A, 0, none⟩)] w (AnsV (.float .f64 4602678819172646912) w) := by
  have e2 : (kind == 2) = false := beq_eq_false_iff_ne.2 hk2
  have e3 : (kind == 3) = false := beq_eq_false_iff_ne.2 hk3
  have HH : Hid (Reads w S A B n D cmp kind op) := h
  have HT : Hid (Holds D t) := ht
  have o1 : (op == 1) = false := beq_eq_false_iff_ne.2 ho1
  have o2 : (op == 2) = false := beq_eq_false_iff_ne.2 ho2
  clear ho1 ho2
  clear ht hk2 hk3
  obtain ⟨_, _, _, _, hkind, _, c0, c1, c2, c3, c4, c5, c6, c7, _⟩ := h
  go_enter Tryd.func29, Tryd.ntmps29
  go_wp2_with (go_at_call 33; go_must (refine (number_zero _).mono ?_); rintro e w1 ⟨rfl, hb1⟩)
  have HR : Hid (Reads w1 S A B n D cmp kind op) := HH.out.below hb1
  clear hkind c0 c1 c2 c3 c4 c5 c6 c7 HH
  have HK : Hid (∀ w', Below w1.heap.size w1 w' → (fun w' => w'.cell? ⟨S, 1, none⟩ = some (.map (some B)) ∧ w'.cell? ⟨A, 3, none⟩ = some (.string ⟨#[]⟩) ∧ w'.cell? ⟨A, 4, none⟩ = some (.float .f64 0) ∧ w'.cell? ⟨A, 5, none⟩ = some (.int .i64 0) ∧ w'.cell? ⟨A, 6, none⟩ = some (.int .i32 0) ∧ w'.cell? ⟨A, 7, none⟩ = some (.int .u8 0) ∧ w'.cell? ⟨A, 8, none⟩ = some (.bool false) ∧ w'.cell? ⟨A, 9, none⟩ = some (.bool false) ∧ w'.cell? ⟨A, 10, none⟩ = some (.bool false) ∧ (Instr.lookup 35 (.map (some B)) (.string ⟨#[]⟩) false).run Tryd.prog w' = .ok (.int .i64 t) w') w') := by
    intro w' hb
    have R := HR.out.below hb
    exact ⟨R.texts, R.c0, R.c1, R.c2, R.c3, R.c4, R.c5, R.c6, R.c7, look_empty R.map HT.out⟩
  go_region_held3 (fun w' => w'.cell? ⟨S, 1, none⟩ = some (.map (some B)) ∧ w'.cell? ⟨A, 3, none⟩ = some (.string ⟨#[]⟩) ∧ w'.cell? ⟨A, 4, none⟩ = some (.float .f64 0) ∧ w'.cell? ⟨A, 5, none⟩ = some (.int .i64 0) ∧ w'.cell? ⟨A, 6, none⟩ = some (.int .i32 0) ∧ w'.cell? ⟨A, 7, none⟩ = some (.int .u8 0) ∧ w'.cell? ⟨A, 8, none⟩ = some (.bool false) ∧ w'.cell? ⟨A, 9, none⟩ = some (.bool false) ∧ w'.cell? ⟨A, 10, none⟩ = some (.bool false) ∧ (Instr.lookup 35 (.map (some B)) (.string ⟨#[]⟩) false).run Tryd.prog w' = .ok (.int .i64 t) w') (first | exact HK.out _ hB3 | exact HK.out _ ((Below.refl _ _).drew)) ((go_at_call 32; refine (text_zero _).mono ?_; rintro e w3 ⟨rfl, hb3⟩; have hB3 : Below w1.heap.size w1 w3 := ((Below.refl _ _).drew).trans hb3))
  have R3 := HR.out.below hB3
  have hop := R3.op
  have hcmp := R3.compared
  clear R3 HR HK HT
  rename_i hHeld
  clear hHeld
  go_wp2
  go_ret
  exact ⟨rfl, hb1.trans (hB3.mono hb1.size)⟩

end Go.Proofs.Qxb6603875aDoor
