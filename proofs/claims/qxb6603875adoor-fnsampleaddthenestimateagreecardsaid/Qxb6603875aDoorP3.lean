/-
  The wrap; the witness's world; the row and the tied card of FnSampleAddThenEstimateAgree.
-/
import Derived.Test.Qxb6603875aDoorP1
import Derived.Test.Qxb6603875aDoorG18
import Derived.Test.Qxb6603875aDoorTie
import Derived.Test.Qxb6603875aDoorCards
import Derived.Stop.Joined
import Derived.LaidMore
import Derived.HandedShaped
import Derived.SevenTiedAt
import Derived.Lay
namespace Go.Proofs.Qxb6603875aDoor
open Go.ChangeShapes Go.WideShapes Go.ChangeAt Go.RowKit
open Go.ChangeMaps (open_string shut_string)
set_option linter.unusedVariables false

theorem cells5 : Tryd.prog.cellsOf 5 = 1 := by kernel_rfl
theorem cells22 : Tryd.prog.cellsOf 22 = 1 := by kernel_rfl

section
variable {H : Type} {enc : TypeId × Value → H} {W : World} {sp : Nat → Bool} {held : Bool}

theorem strs_of {v : Value} {fuel : Nat} {x : DataW H × List MemPlace} (hf : DataW.trod enc Tryd.prog W 0 sp held fuel 22 [v] = some x) : ∃ n, SlAt IsStr W v n ∧ n ≤ 9223372036854775807 := by
  rcases open_strings Tryd.underlying22 Tryd.underlying9 cells9 hf with ⟨hcs, _⟩ | ⟨a, len', cap', ss, hcs, _, hl, hm, hz, _, hcell, hws⟩
  · simp at hcs
    subst hcs
    exact ⟨0, ⟨_, _, rfl, Or.inl rfl⟩, by omega⟩
  · simp at hcs
    subst hcs
    have hlm : len' ≤ ss.length := by rw [hz]; split <;> omega
    refine ⟨len', slAt_of fun i hi => ⟨_, hcell i (by omega), _, rfl, ?_⟩, by unfold maxLen at hm; omega⟩
    exact hws _ (by rw [List.getD_eq_getElem?_getD, List.getElem?_eq_getElem (by omega)]; exact List.getElem_mem _)

set_option maxRecDepth 100000 in
theorem bytes_in {v : Value} {d : DataW H} {p : List MemPlace} {r : Reach} {b0 : Nat} (hv : Value.okWide Tryd.prog W r b0 43 v) (h : DataW.Trod enc Tryd.prog W 0 sp held 43 v d p) : ∃ n, SlAt IsByte W v n ∧ n ≤ 9223372036854775807 := by
  obtain ⟨a0, len, cap, rfl⟩ := okWide_slice Tryd.underlying43 hv
  obtain ⟨fuel, hf⟩ := h
  rcases open_ints Tryd.underlying43 Tryd.underlying5 cells5 hf with ⟨hcs, _⟩ | ⟨a, len', cap', zs, hcs, _, hl, hm, hz, _, hcell, hws⟩
  · simp [Value.cells] at hcs
    obtain ⟨rfl, rfl, rfl⟩ := hcs
    exact ⟨0, ⟨_, _, rfl, Or.inl rfl⟩, by omega⟩
  · simp [Value.cells] at hcs
    obtain ⟨rfl, rfl, rfl⟩ := hcs
    have hlm : len ≤ zs.length := by rw [hz]; split <;> omega
    exact ⟨len, slAt_of fun i hi => ⟨_, hcell i (by omega), _, rfl⟩, by unfold maxLen at hm; omega⟩

set_option maxRecDepth 100000 in
theorem lists_in {v : Value} {d : DataW H} {p : List MemPlace} {r : Reach} {b0 : Nat} (hv : Value.okWide Tryd.prog W r b0 44 v) (h : DataW.Trod enc Tryd.prog W 0 sp held 44 v d p) : ∃ n, LstAt W v n 9223372036854775807 ∧ n ≤ 9223372036854775807 := by
  obtain ⟨a0, len, cap, rfl⟩ := okWide_slice Tryd.underlying44 hv
  obtain ⟨fuel, hf⟩ := h
  rcases Deep.open_slice1 Tryd.underlying44 cells22 hf with ⟨hcs, _⟩ | ⟨a, len', cap', m, n, V, D, Pl, hcs, _, hl, hm, hz, _, hcell⟩
  · simp [Value.cells] at hcs
    obtain ⟨rfl, rfl, rfl⟩ := hcs
    exact ⟨0, ⟨_, _, rfl, Or.inl rfl⟩, by omega⟩
  · simp [Value.cells] at hcs
    obtain ⟨rfl, rfl, rfl⟩ := hcs
    have hlm : len ≤ m := by rw [hz]; split <;> omega
    have hc : ∀ i, i < len → ∃ x, W.cell? (a.add i) = some x ∧ ∃ n, SlAt IsStr W x n ∧ n ≤ 9223372036854775807 := fun i hi => ⟨_, (hcell i (by omega)).1, strs_of (hcell i (by omega)).2⟩
    have hS := slAt_of (Q := fun x => ∃ n, SlAt IsStr W x n ∧ n ≤ 9223372036854775807) (cap := cap) hc
    refine ⟨len, ?_, by unfold maxLen at hm; omega⟩
    obtain ⟨a', cap', e, hS⟩ := hS
    refine ⟨a', cap', e, ?_⟩
    rcases hS with h0 | ⟨b, off, h1, h2, h3⟩
    · exact Or.inl h0
    · refine Or.inr ⟨b, off, h1, h2, fun j hj => ?_⟩
      obtain ⟨x, hx, n, q1, q2⟩ := h3 j hj
      exact ⟨x, n, hx, q1, q2⟩
end

theorem own : ownKnob Tryd.prog.godebug = none := by kernel_rfl
theorem laidOut : laidOutB Tryd.prog = true := by kernel_rfl

/-- THE WRAP: what the row lists AND the world's shape are handed on. -/
theorem returns_and_shaped {H : Type} {enc : TypeId × Value → H} {a : Assume} {C : Checked} {os : Os} {f : FuncId} {fn : Func} {s : ChangeSpec} {conds : List PathCond} {apart fresh handsOn again : Bool} {X : World → Array Value → Prop}
    (hX : ∀ (w w' : World) (args : Array Value), w.heap = w'.heap → X w args → X w' args)
    (own : ownKnob C.prog.godebug = none) (started : os.Started) (noInit : C.prog.inits.idxOf? f = none) (hfn : C.prog.funcs[f]? = some fn)
    (witness : ∃ (w : World) (tape : Tape) (i : Input), w.os = os ∧ (w.forCall tape i).Shaped C.prog ∧ i.vars = [] ∧ Input.okWide C.prog (w.forCall tape i) .any w.heap.size f i ∧
      ((s.pre enc C.prog fn conds apart (w.forCall tape i).memory i.args ∧ X (w.forCall tape i).memory i.args) ∧ sizedMet enc C.prog fn (OpenSpec.ofChange s) apart (w.forCall tape i).memory i.args) ∧ a.holds C.prog (lone (Frame.enter C.prog f i.args .normal) [] (w.forCall tape i)))
    (contract : ∀ (W : World) (base : Nat) (args : Array Value) (ds gs : List (DataW H)) (before : List MemPlace),
      (∀ (j : Nat) t v, fn.params[j]? = some t → args[j]? = some v → Value.okWide C.prog W .any base t v) →
      DataW.Whole enc C.prog fn.params.toList s.vars apart W args.toList ds gs before →
      X W args → W.ShapedOpen C.prog →
      Calls C.prog f args W fun e W' => ∃ v, e = .returned v ∧ s.post enc C.prog fn apart fresh handsOn again W args v W') :
    ReturnsInHanded a C os f .any (fun w args => (s.pre enc C.prog fn conds apart w args ∧ X w args) ∧ sizedMet enc C.prog fn (OpenSpec.ofChange s) apart w args) (s.post enc C.prog fn apart fresh handsOn again) := by
  refine returnsInHanded_of_calls own started noInit witness ?_
  intro w tape i _ hsh _ hok hpre hholds
  obtain ⟨_, _, _, fn', hfn', _, _, _, _, hval⟩ := hok
  have e : fn' = fn := Option.some.inj (hfn'.symm.trans hfn)
  subst e
  obtain ⟨⟨⟨ds, gs, before, hw, hc⟩, hx⟩, hz⟩ := hpre
  have hw' := DataW.Whole.of_heap (w' := w.forCall tape i) (by rfl) hw
  refine (contract (w.forCall tape i) w.heap.size i.args ds gs before hval hw' (hX _ _ _ (by rfl) hx) hsh).mono fun e W' ⟨v, he, hp⟩ => ?_
  subst he
  exact ChangeSpec.post_blind hp



set_option maxRecDepth 100000 in
theorem agree_lifted (os : Os) (started : os.Started) (H : Type) (enc : TypeId × Value → H) :
    ReturnsInHanded {} Tryd.checked os 5 .any (fun w args => (Rows.fnSampleAddThenEstimateAgreeSpec.pre enc Tryd.prog Tryd.f5 [] false w args ∧ laidMetH Tryd.prog Rows.fnSampleAddThenEstimateAgreeRow.laid w) ∧ sizedMet enc Tryd.prog Tryd.f5 (OpenSpec.ofChange Rows.fnSampleAddThenEstimateAgreeSpec) false w args)
      (Rows.fnSampleAddThenEstimateAgreeSpec.post enc Tryd.prog Tryd.f5 false true false false) := by
  refine returns_and_shaped (C := Tryd.checked) (X := fun w _ => laidMetH Tryd.prog Rows.fnSampleAddThenEstimateAgreeRow.laid w) (fun _ _ _ hh h => h.of_heap hh) own started (by kernel_rfl) Tryd.func5
    (ChangeSpec.witness_shaped (enc := enc) (C := Tryd.checked) (os := os) (X := fun w _ => laidMetH Tryd.prog Rows.fnSampleAddThenEstimateAgreeRow.laid w) false (World.laidAll Tryd.prog os Rows.fnSampleAddThenEstimateAgreeRow.laid) #[.slice none 0 0, .slice none 0 0, .string ⟨#[]⟩] 8 (World.laidAll_os _ _ _)
      (World.shaped_of_ZipB (by kernel_rfl) (by kernel_rfl)) (by kernel_rfl) (by kernel_rfl) (by kernel_rfl)
      (by rw [MakeChecks.laidMetH_plain _ _ _ (by kernel_rfl)]; exact laidMet_laidAll _ (by kernel_rfl) (by kernel_rfl))) ?_
  intro W base args ds gs before hval0 hW hL hsh
  have hval : ∀ (j : Nat) t v, Tryd.f5.params[j]? = some t → args[j]? = some v → Value.okWide Tryd.prog W .any base t v := hval0
  have hW' := hW
  obtain ⟨p, q, hA0, hV, rfl, hfz, hnd⟩ := hW
  have hA : DataW.TrodAll enc Tryd.prog W 0 (fun _ => true) true Tryd.f5.params.toList args.toList ds p := hA0
  rw [Tryd.params5] at hA hval
  obtain ⟨vs, hvs⟩ : ∃ vs, args.toList = vs := ⟨_, rfl⟩
  rw [hvs] at hA
  obtain ⟨v0, l0, d0, e0, p0, r0, rfl, rfl, rfl, h0, hA⟩ := trodAll_cons hA
  obtain ⟨v1, l1, d1, e1, p1, r1, rfl, rfl, rfl, h1, hA⟩ := trodAll_cons hA
  obtain ⟨v2, l2, d2, e2, p2, r2, rfl, rfl, rfl, h2, hA⟩ := trodAll_cons hA
  obtain ⟨rfl, rfl, rfl⟩ := trodAll_nil hA
  obtain rfl : args = #[v0, v1, v2] := Array.toList_inj.1 hvs
  clear hvs hA
  obtain ⟨rfl, rfl⟩ := trodVars_none hV
  obtain ⟨n0, s0, b0⟩ := bytes_in (hval 0 43 v0 rfl rfl) h0
  obtain ⟨n1, s1, b1⟩ := lists_in (hval 1 44 v1 rfl rfl) h1
  obtain ⟨pr, rfl, rfl, rfl, w2⟩ := open_string Tryd.underlying9 (hval 2 9 v2 rfl rfl) h2
  have t0 : ∀ x ∈ p0, x.block < W.heap.size := by obtain ⟨m, hm⟩ := h0; exact DataW.trod_lt m _ _ _ hm
  have t1 : ∀ x ∈ p1, x.block < W.heap.size := by obtain ⟨m, hm⟩ := h1; exact DataW.trod_lt m _ _ _ hm
  clear hA0 hval0
  refine (agree_walk v0 v1 pr n0 n1 W s0 s1 b0 b1 (by unfold maxLen at w2; omega)).mono fun e' W' ⟨he, bel⟩ => ?_
  subst he
  exact ⟨_, rfl, _, _, _, [], _, [], hW', trodAll_mk1 (shut_bool Tryd.underlying4 _), (trodAll_cons_mk (Below.trod laidOut (by kernel_rfl) (of_decide_eq_true (by kernel_rfl)) h0 bel t0) (trodAll_cons_mk (Below.trod laidOut (by kernel_rfl) (of_decide_eq_true (by kernel_rfl)) h1 bel t1) (trodAll_cons_mk (shut_string Tryd.underlying9 w2) trodAll_mk0))), rfl, bel.frame _, fun h => by cases h⟩

theorem agree_holds : Rows.FnSampleAddThenEstimateAgreeSaid :=
  OpenClaim.holds_of_wide 5 Tryd.f5 rfl rfl rfl rfl rfl rfl rfl ⟨rfl, rfl, rfl, rfl, rfl⟩ rfl rfl rfl rfl rfl (by kernel_rfl) Tryd.func5 (by kernel_rfl)
    (of_decide_eq_true (by kernel_rfl)) (by unfold Func.isWrapper; first | (rw [if_pos (by decide +kernel)]; kernel_rfl) | (rw [if_neg (by decide +kernel)]; exact ⟨rfl, rfl⟩))
    (fun os started H enc _ => agree_lifted os started H enc)

/-- THE STATEMENT -/
theorem agree_proved : Rows.FnSampleAddThenEstimateAgreeCardSaid :=
  Claim7.holds_tied_plain_at .later [] [.data, .data, .data, .data, .pinned, .pinned] true Rows.fnSampleAddThenEstimateAgreeCard.stood.harness false
    agree_holds (fun _ h => by cases h) (by kernel_rfl) (fun _ h => by cases h) fnSampleAddThenEstimateAgree_row_tie rfl ⟨rfl, rfl⟩ (by kernel_rfl) rfl
    (fun f fn hf hfn => by
      obtain rfl : f = 5 := Option.some.inj ((show Tryd.prog.funcNamed Rows.fnSampleAddThenEstimateAgreeRow.func = some 5 by kernel_rfl).symm.trans hf) |>.symm
      obtain rfl : fn = Tryd.f5 := (Option.some.inj (Tryd.func5.symm.trans hfn)).symm
      exact ⟨by kernel_rfl, fun j t ht => by
        rw [Tryd.params5] at ht
        have hm := List.mem_of_getElem? (l := [43, 44, 9]) (i := j) (a := t) (by simpa using ht)
        simp only [List.mem_cons, List.mem_nil_iff, or_false] at hm
        rcases hm with rfl | rfl | rfl
        · exact (show Tryd.prog.wantsStandIn 43 = false by kernel_rfl)
        · exact (show Tryd.prog.wantsStandIn 44 = false by kernel_rfl)
        · exact (show Tryd.prog.wantsStandIn 9 = false by kernel_rfl)⟩)
    (by kernel_rfl)
end Go.Proofs.Qxb6603875aDoor
