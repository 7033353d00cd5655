/-
  THE ROW, AND THE TIED CARD.
-/
import Derived.Test.Qxb6603280aDoorW10
import Derived.Test.Qxb6603280aDoorCards
import Derived.Test.Qxb6603280aDoorTie
import Derived.ProofKit
import Derived.OpenShut
import Derived.ChangeOld
import Derived.Stop.Joined
import Derived.LaidMore
import Derived.HandedShaped
import Derived.PinnedBridge
import Derived.Lib.LaidU8
import Derived.Deep.Slices
import Derived.Shelf.Vars
import Derived.SevenTiedAt
namespace Go.Proofs.Qxb6603280aDoor
open Go.ChangeShapes Go.WideShapes Go.ChangeAt Go.RowKit
set_option linter.unusedVariables false

theorem own : ownKnob Tryd.prog.godebug = none := by kernel_rfl
theorem laidOut : laidOutB Tryd.prog = true := by kernel_rfl
theorem cells29 : Tryd.prog.cellsOf 29 = 3 := by kernel_rfl
theorem cells9 : Tryd.prog.cellsOf 9 = 1 := by kernel_rfl

/-- THE WRAP: what the row lists AND the world's shape are handed on. -/
theorem returns_and_shaped {H : Type} {enc : TypeId × Value → H} {a : Assume} {C : Checked} {os : Os} {f : FuncId} {fn : Func} {s : ChangeSpec} {conds : List PathCond} {apart fresh handsOn again : Bool} {X : World → Array Value → Prop}
    (hX : ∀ (w w' : World) (args : Array Value), w.heap = w'.heap → X w args → X w' args)
    (own : ownKnob C.prog.godebug = none) (started : os.Started) (noInit : C.prog.inits.idxOf? f = none) (hfn : C.prog.funcs[f]? = some fn)
    (witness : ∃ (w : World) (tape : Tape) (i : Input), w.os = os ∧ (w.forCall tape i).Shaped C.prog ∧ i.vars = [] ∧ Input.okWide C.prog (w.forCall tape i) .any w.heap.size f i ∧
      ((s.pre enc C.prog fn conds apart (w.forCall tape i).memory i.args ∧ X (w.forCall tape i).memory i.args) ∧ sizedMet enc C.prog fn (OpenSpec.ofChange s) apart (w.forCall tape i).memory i.args) ∧ a.holds C.prog (lone (Frame.enter C.prog f i.args .normal) [] (w.forCall tape i)))
    (contract : ∀ (W : World) (base : Nat) (args : Array Value) (ds gs : List (DataW H)) (before : List MemPlace),
      (∀ (j : Nat) t v, fn.params[j]? = some t → args[j]? = some v → Value.okWide C.prog W .any base t v) →
      DataW.Whole enc C.prog fn.params.toList s.vars apart W args.toList ds gs before →
      X W args → W.ShapedOpen C.prog →
      Calls C.prog f args W fun e W' => ∃ v, e = .returned v ∧ s.post enc C.prog fn apart fresh handsOn again W args v W') :
    ReturnsInHanded a C os f .any (fun w args => (s.pre enc C.prog fn conds apart w args ∧ X w args) ∧ sizedMet enc C.prog fn (OpenSpec.ofChange s) apart w args) (s.post enc C.prog fn apart fresh handsOn again) := by
  refine returnsInHanded_of_calls own started noInit witness ?_
  intro w tape i _ hsh _ hok hpre hholds
  obtain ⟨_, _, _, fn', hfn', _, _, _, _, hval⟩ := hok
  have e : fn' = fn := Option.some.inj (hfn'.symm.trans hfn)
  subst e
  obtain ⟨⟨⟨ds, gs, before, hw, hc⟩, hx⟩, hz⟩ := hpre
  have hw' := DataW.Whole.of_heap (w' := w.forCall tape i) (by rfl) hw
  refine (contract (w.forCall tape i) w.heap.size i.args ds gs before hval hw' (hX _ _ _ (by rfl) hx) hsh).mono fun e W' ⟨v, he, hp⟩ => ?_
  subst he
  exact ChangeSpec.post_blind hp

/-! ### what the row lists, in the walks' words -/
theorem extraU8 : U8Extra Tryd.prog Tryd.lays260_ren where
  n3 := by kernel_rfl
  n4 := by kernel_rfl
  y3 := by kernel_rfl
  y4 := by kernel_rfl
  c5 := by kernel_rfl
  c119 := by kernel_rfl
  c138 := by kernel_rfl

theorem accept_eq : (Rows.laid_unicode_utf8_acceptRanges : DataW Unit) = Lib.acceptData := by kernel_rfl

theorem tabs_of_laid {W : World} (h : laidMetH Tryd.prog Rows.fnTwoLineScanReadsBackWrittenRecordsRow.laid W) : Lib.Utf8Tabs 1 2 W := by
  rw [MakeChecks.laidMetH_plain _ _ _ (by kernel_rfl)] at h
  have h1 := Lib.laidMet.reads h (List.mem_cons_self ..)
  have h2 := Lib.laidMet.reads h (List.mem_cons_of_mem _ (List.mem_cons_self ..))
  rw [accept_eq] at h1
  rw [show Rows.laid_unicode_utf8_first = Lib.firstData from Pinned.utf8First_eq] at h2
  exact utf8Tabs_of_reads Tryd.lays260 extraU8 h2 h1

/-! ### the records that came in -/
theorem lt_of_cell {w : World} {b o : Nat} {v : Value} (h : w.cell? ⟨b, o, none⟩ = some v) : b < w.heap.size := by
  rcases Nat.lt_or_ge b w.heap.size with hlt | hge
  · exact hlt
  · simp [World.cell?, Array.getElem?_eq_none hge] at h

theorem recs_of_trod {H : Type} {enc : TypeId × Value → H} {W : World} {sp : Nat → Bool} {held : Bool} {fuel : Nat} {ao : Option Addr} {len cap : Nat} {d : DataW H} {p : List MemPlace}
    (hf : DataW.trod enc Tryd.prog W 0 sp held fuel 22 [.slice ao len cap] = some (d, p)) :
    len ≤ maxLen ∧ (ao = none → len = 0 ∧ cap = 0) ∧ ∃ h b e, Recs W ao len h b e := by
  rcases Deep.open_slice Tryd.underlying22 hf with ⟨hcs, _⟩ | ⟨a, len', cap', m, n, D, Pl, hcs, _, hl, hm, hmm, _, hx⟩
  · simp at hcs
    obtain ⟨rfl, rfl, rfl⟩ := hcs
    exact ⟨Nat.zero_le _, fun _ => ⟨rfl, rfl⟩, fun _ => ByteArray.empty, fun _ => ByteArray.empty, fun _ => ByteArray.empty, ⟨fun h => absurd h (by omega), fun i hi => absurd hi (by omega), fun i hi => absurd hi (by omega), fun i hi => absurd hi (by omega)⟩⟩
  · simp at hcs
    obtain ⟨rfl, rfl, rfl⟩ := hcs
    refine ⟨Nat.le_trans hl hm, (fun h => by cases h), ?_⟩
    have hlm : len ≤ m := by rw [hmm]; split <;> omega
    have key : ∀ i, i < len → ∃ x : ByteArray × ByteArray × ByteArray, (W.cell? (a.add (i * 3)) = some (.string x.1) ∧ W.cell? (a.add (i * 3 + 1)) = some (.string x.2.1) ∧ W.cell? (a.add (i * 3 + 2)) = some (.string x.2.2)) ∧ x.1.size ≤ maxLen ∧ x.2.1.size ≤ maxLen ∧ x.2.2.size ≤ maxLen := by
      intro i hi
      obtain ⟨cs', h1, h2⟩ := hx i (by omega)
      rw [cells29] at h1
      obtain ⟨_, hlen, hcell⟩ := World.cells?_some h1
      obtain ⟨xs, n', _, _, _, hxl, hall⟩ := DataW.trod_struct Tryd.underlying29 h2
      have hxl3 : xs.length = 3 := hxl
      match cs', hlen, xs, hxl3 with
      | [c0, c1, c2], _, [x0, x1, x2], _ =>
        have f0 : DataW.trod enc Tryd.prog W 0 sp held n' 9 [c0] = some x0 := by
          have := hall 0 _ rfl
          simpa [cells9] using this
        have f1 : DataW.trod enc Tryd.prog W 0 sp held n' 9 [c1] = some x1 := by
          have := hall 1 _ rfl
          simpa [cells9] using this
        have f2 : DataW.trod enc Tryd.prog W 0 sp held n' 9 [c2] = some x2 := by
          have := hall 2 _ rfl
          simpa [cells9] using this
        obtain ⟨s0, e0, _, z0⟩ := DataW.trod_string Tryd.underlying9 f0
        obtain ⟨s1, e1, _, z1⟩ := DataW.trod_string Tryd.underlying9 f1
        obtain ⟨s2, e2, _, z2⟩ := DataW.trod_string Tryd.underlying9 f2
        cases e0; cases e1; cases e2
        refine ⟨(s0, s1, s2), ⟨?_, ?_, ?_⟩, z0, z1, z2⟩
        · have := hcell 0 (by omega); rwa [Deep.add_add] at this
        · have := hcell 1 (by omega); rwa [Deep.add_add] at this
        · have := hcell 2 (by omega); rwa [Deep.add_add] at this
    obtain ⟨F, hF⟩ := Deep.choose_lt (α := ByteArray × ByteArray × ByteArray) key
    refine ⟨fun i => (F i).1, fun i => (F i).2.1, fun i => (F i).2.2, ⟨fun hp => ?_, fun i hi => (hF i hi).2.1, fun i hi => (hF i hi).2.2.1, fun i hi => (hF i hi).2.2.2⟩⟩
    obtain ⟨bl, off, spot⟩ := a
    have hspot : spot = none := by simpa [Addr.add] using World.cell?_spot (hF 0 hp).1.1
    subst hspot
    refine ⟨bl, off, rfl, ?_, fun i hi => ?_⟩
    · have := (hF 0 hp).1.1
      rw [add_off] at this
      exact lt_of_cell this
    · obtain ⟨c0, c1, c2⟩ := (hF i hi).1
      rw [add_off] at c0 c1 c2
      exact ⟨c0, c1, c2⟩

/-! ### the row -/
/-- A world in which the two tables lie as the program's text lays them. -/
theorem door_met (os : Os) (args : Array Value) : laidMetH Tryd.prog Rows.fnTwoLineScanReadsBackWrittenRecordsRow.laid (((World.doorLaid Tryd.prog 400 os).setRow 1 (Lib.firstTab.map (Value.int .u8)).toArray).forCall (fun _ _ => 0) ⟨#[], args, []⟩).memory :=
  laidMetH_of_parts3 (fuel := 8) (laidMet_of_run' 8 (by kernel_rfl) (by kernel_rfl)) (by kernel_rfl) (by kernel_rfl)

set_option maxRecDepth 100000 in
theorem lifted (os : Os) (started : os.Started) (H : Type) (enc : TypeId × Value → H) :
    ReturnsInHanded {} Tryd.checked os 3 .any (fun w args => (Rows.fnTwoLineScanReadsBackWrittenRecordsSpec.pre enc Tryd.prog Tryd.f3 [] false w args ∧ laidMetH Tryd.prog Rows.fnTwoLineScanReadsBackWrittenRecordsRow.laid w) ∧ sizedMet enc Tryd.prog Tryd.f3 (OpenSpec.ofChange Rows.fnTwoLineScanReadsBackWrittenRecordsSpec) false w args)
      (Rows.fnTwoLineScanReadsBackWrittenRecordsSpec.post enc Tryd.prog Tryd.f3 false true false false) := by
  refine returns_and_shaped (C := Tryd.checked) (X := fun w _ => laidMetH Tryd.prog Rows.fnTwoLineScanReadsBackWrittenRecordsRow.laid w) (fun _ _ _ hh h => h.of_heap hh) own started (by kernel_rfl) Tryd.func3
    (ChangeSpec.witness_shaped (enc := enc) (C := Tryd.checked) (os := os) (X := fun w _ => laidMetH Tryd.prog Rows.fnTwoLineScanReadsBackWrittenRecordsRow.laid w) false ((World.doorLaid Tryd.prog 400 os).setRow 1 (Lib.firstTab.map (Value.int .u8)).toArray) #[.slice none 0 0, .bool false] 8 rfl (World.shaped_of_RefB (by kernel_rfl) (by kernel_rfl)) (by kernel_rfl) (by kernel_rfl) (by kernel_rfl) (door_met os _)) ?_
  intro W base args ds gs before hval0 hW hL hsh
  have hval : ∀ (j : Nat) t v, Tryd.f3.params[j]? = some t → args[j]? = some v → Value.okWide Tryd.prog W .any base t v := hval0
  have hW' := hW
  obtain ⟨p, q, hA0, hV, rfl, hfz, hnd⟩ := hW
  have hA : DataW.TrodAll enc Tryd.prog W 0 (fun _ => true) true Tryd.f3.params.toList args.toList ds p := hA0
  rw [Tryd.params3] at hA hval
  obtain ⟨v0, v1, d0, d1, p0, p1, rfl, rfl, rfl, h0, h1⟩ := trodAll_two hA
  obtain ⟨rfl, rfl⟩ := trodVars_none hV
  obtain ⟨ao, len, cap, rfl⟩ := okWide_slice Tryd.underlying22 (hval 0 22 v0 rfl rfl)
  have k0 := h0
  have lt0 : ∀ x ∈ p0, x.block < W.heap.size := by obtain ⟨m, hm⟩ := k0; exact DataW.trod_lt m _ _ _ hm
  obtain ⟨hl, hn, h, b, e, R⟩ : len ≤ maxLen ∧ (ao = none → len = 0 ∧ cap = 0) ∧ ∃ h b e, Recs W ao len h b e := by
    obtain ⟨fuel, hf⟩ := h0
    exact recs_of_trod hf
  obtain ⟨crlf, rfl, rfl, rfl⟩ := open_bool Tryd.underlying4 (hval 1 4 v1 rfl rfl) h1
  have hm : ∃ m, W.cell? ⟨0, 0, none⟩ = some (.int .i64 m) := cell_of_shapedOpen_int (P := Tryd.prog) (t := 3) (zero := #[.int .i64 0]) hsh (of_decide_eq_true (by kernel_rfl)) (by kernel_rfl) rfl (by kernel_rfl) (by kernel_rfl) Tryd.underlying3
  have hE : Env W := ⟨hm, tabs_of_laid hL⟩
  have h3 : 3 ≤ W.heap.size := lt_of_cell (hE.tabs.2 0 (by decide)).1
  clear hA0 hval0
  have fin : Calls Tryd.prog 3 #[.slice ao len cap, .bool crlf] W (AnsL W) := by
    cases crlf
    · exact law_lf ao len cap h b e W hl hn R hE h3
    · exact law_crlf ao len cap h b e W hl hn R hE h3
  refine fin.mono fun e' W' ⟨he, bel⟩ => ?_
  subst he
  exact ⟨_, rfl, _, _, _, [], _, [], hW', trodAll_mk1 (shut_bool Tryd.underlying4 _), (trodAll_cons_mk (Below.trod laidOut (by kernel_rfl) (of_decide_eq_true (by kernel_rfl)) k0 bel lt0) (trodAll_cons_mk (shut_bool Tryd.underlying4 _) trodAll_mk0)), rfl, bel.frame _, fun h => by cases h⟩

theorem row_holds : Rows.FnTwoLineScanReadsBackWrittenRecordsSaid :=
  OpenClaim.holds_of_wide 3 Tryd.f3 rfl rfl rfl rfl rfl rfl rfl ⟨rfl, rfl, rfl, rfl, rfl⟩ rfl rfl rfl rfl rfl (by kernel_rfl) Tryd.func3 (by kernel_rfl)
    (of_decide_eq_true (by kernel_rfl)) (by unfold Func.isWrapper; first | (rw [if_pos (by decide +kernel)]; kernel_rfl) | (rw [if_neg (by decide +kernel)]; exact ⟨rfl, rfl⟩))
    (fun os started H enc _ => lifted os started H enc)

/-- THE STATEMENT -/
theorem proved : Rows.FnTwoLineScanReadsBackWrittenRecordsCardSaid :=
  Claim7.holds_tied_plain_at .later [] [.data, .pinned] true Rows.fnTwoLineScanReadsBackWrittenRecordsCard.stood.harness false
    row_holds (fun _ h => by cases h) (by kernel_rfl) (fun _ h => by cases h) fnTwoLineScanReadsBackWrittenRecords_row_tie rfl ⟨rfl, rfl⟩ (by kernel_rfl) rfl
    (fun f fn hf hfn => by
      obtain rfl : f = 3 := Option.some.inj ((show Tryd.prog.funcNamed Rows.fnTwoLineScanReadsBackWrittenRecordsRow.func = some 3 by kernel_rfl).symm.trans hf) |>.symm
      obtain rfl : fn = Tryd.f3 := (Option.some.inj (Tryd.func3.symm.trans hfn)).symm
      exact ⟨by kernel_rfl, fun j t ht => by
        rw [Tryd.params3] at ht
        rcases j with _ | _ | j
        · obtain rfl : 22 = t := by simpa using ht
          exact (show Tryd.prog.wantsStandIn 22 = false by kernel_rfl)
        · obtain rfl : 4 = t := by simpa using ht
          exact (show Tryd.prog.wantsStandIn 4 = false by kernel_rfl)
        · simp at ht⟩)
    (by kernel_rfl)
end Go.Proofs.Qxb6603280aDoor
