/-
  What the rows of this seat list, in the walks' words; the wrap; the world of the witness.
-/
import Derived.Test.Qxb6603659aDoorW2
import Derived.Test.Qxb6603659aDoorTie
import Derived.ProofKit
import Derived.OpenShut
import Derived.ChangeOld
import Derived.Stop.Joined
import Derived.LaidMore
import Derived.HandedShaped
import Derived.PinnedBridge
import Derived.Lib.LaidU8T
import Derived.Shelf.Vars
namespace Go.Proofs.Qxb6603659aDoor
open Go.ChangeShapes Go.WideShapes Go.ChangeAt Go.RowKit
set_option linter.unusedVariables false

theorem own : ownKnob Tryd.prog.godebug = none := by kernel_rfl
theorem laidOut : laidOutB Tryd.prog = true := by kernel_rfl

/-- THE WRAP: what the row lists AND the world's shape are handed on. -/
theorem returns_and_shaped {H : Type} {enc : TypeId × Value → H} {a : Assume} {C : Checked} {os : Os} {f : FuncId} {fn : Func} {s : ChangeSpec} {conds : List PathCond} {apart fresh handsOn again : Bool} {X : World → Array Value → Prop}
    (hX : ∀ (w w' : World) (args : Array Value), w.heap = w'.heap → X w args → X w' args)
    (own : ownKnob C.prog.godebug = none) (started : os.Started) (noInit : C.prog.inits.idxOf? f = none) (hfn : C.prog.funcs[f]? = some fn)
    (witness : ∃ (w : World) (tape : Tape) (i : Input), w.os = os ∧ (w.forCall tape i).Shaped C.prog ∧ i.vars = [] ∧ Input.okWide C.prog (w.forCall tape i) .any w.heap.size f i ∧
      ((s.pre enc C.prog fn conds apart (w.forCall tape i).memory i.args ∧ X (w.forCall tape i).memory i.args) ∧ sizedMet enc C.prog fn (OpenSpec.ofChange s) apart (w.forCall tape i).memory i.args) ∧ a.holds C.prog (lone (Frame.enter C.prog f i.args .normal) [] (w.forCall tape i)))
    (contract : ∀ (W : World) (base : Nat) (args : Array Value) (ds gs : List (DataW H)) (before : List MemPlace),
      (∀ (j : Nat) t v, fn.params[j]? = some t → args[j]? = some v → Value.okWide C.prog W .any base t v) →
      DataW.Whole enc C.prog fn.params.toList s.vars apart W args.toList ds gs before →
      X W args → W.ShapedOpen C.prog →
      Calls C.prog f args W fun e W' => ∃ v, e = .returned v ∧ s.post enc C.prog fn apart fresh handsOn again W args v W') :
    ReturnsInHanded a C os f .any (fun w args => (s.pre enc C.prog fn conds apart w args ∧ X w args) ∧ sizedMet enc C.prog fn (OpenSpec.ofChange s) apart w args) (s.post enc C.prog fn apart fresh handsOn again) := by
  refine returnsInHanded_of_calls own started noInit witness ?_
  intro w tape i _ hsh _ hok hpre hholds
  obtain ⟨_, _, _, fn', hfn', _, _, _, _, hval⟩ := hok
  have e : fn' = fn := Option.some.inj (hfn'.symm.trans hfn)
  subst e
  obtain ⟨⟨⟨ds, gs, before, hw, hc⟩, hx⟩, hz⟩ := hpre
  have hw' := DataW.Whole.of_heap (w' := w.forCall tape i) (by rfl) hw
  refine (contract (w.forCall tape i) w.heap.size i.args ds gs before hval hw' (hX _ _ _ (by rfl) hx) hsh).mono fun e W' ⟨v, he, hp⟩ => ?_
  subst he
  exact ChangeSpec.post_blind hp


theorem extraU8 : U8Extra Tryd.prog Tryd.lays196_ren where
  n3 := by kernel_rfl
  n4 := by kernel_rfl
  y3 := by kernel_rfl
  y4 := by kernel_rfl
  c5 := by kernel_rfl
  c119 := by kernel_rfl
  c138 := by kernel_rfl
theorem extraW : WhiteExtra Tryd.prog Tryd.lays199_ren where
  n6 := by kernel_rfl
  y6 := by kernel_rfl
  c3 := by kernel_rfl
  c49 := by kernel_rfl
  c193 := by kernel_rfl
  c194 := by kernel_rfl
  c196 := by kernel_rfl
  c198 := by kernel_rfl

theorem accept_eq : (Rows.laid_unicode_utf8_acceptRanges : DataW Unit) = Lib.acceptData := by kernel_rfl
theorem white_eq : (Rows.laid_unicode_White_Space : DataW Unit) = Lib.whiteData := by kernel_rfl
theorem props_eq : (Rows.laid_unicode_properties : DataW Unit) = Lib.tabData .u8 Lib.propertiesTab := by kernel_rfl

theorem tabIs_of_reads {P : Program} {W : World} {name : String} {k : IntKind} {zs : List Int} {g : Nat} {t e : TypeId} {n : Nat}
    (hg : P.globalNamed name = some g) (hty : (P.globals[g]?).map (·.type) = some t) (ht : P.underlying t = some (.array n e)) (he : P.underlying e = some (.int k)) (hce : P.cellsOf e = 1) (hct : P.cellsOf t = n)
    (h : Lib.VarReads P W name (Lib.tabData k zs)) : Lib.TabIs P W name k zs := by
  obtain ⟨g', t', cs, fuel, p, hg', ht', hvar, hd⟩ := h
  obtain rfl := Option.some.inj (hg.symm.trans hg')
  obtain rfl := Option.some.inj (hty.symm.trans ht')
  have hcs := Lib.cells_of_tab ht he hce hct hd
  unfold Lib.TabIs
  rw [hvar]
  congr 1
  exact Array.toList_inj.1 (by rw [hcs])

theorem env_of_laid {W : World} (h : laidMetH Tryd.prog Rows.fnValidUserExactRow.laid W) (hsh : W.ShapedOpen Tryd.prog) : Env W := by
  rw [MakeChecks.laidMetH_plain _ _ _ (by kernel_rfl)] at h
  have h1 := Lib.laidMet.reads h (List.mem_cons_self ..)
  have h2 := Lib.laidMet.reads h (List.mem_cons_of_mem _ (List.mem_cons_self ..))
  have h4 := Lib.laidMet.reads h (List.mem_cons_of_mem _ (List.mem_cons_of_mem _ (List.mem_cons_of_mem _ (List.mem_cons_self ..))))
  rw [accept_eq] at h1
  rw [white_eq] at h2
  rw [show Rows.laid_unicode_utf8_first = Lib.firstData from Pinned.utf8First_eq] at h4
  have h3 := Lib.laidMet.reads h (List.mem_cons_of_mem _ (List.mem_cons_of_mem _ (List.mem_cons_self ..)))
  rw [props_eq] at h3
  exact ⟨cell_of_shapedOpen_int (P := Tryd.prog) (t := 3) (zero := #[.int .i64 0]) hsh (of_decide_eq_true (by kernel_rfl)) (by kernel_rfl) rfl (by kernel_rfl) (by kernel_rfl) Tryd.underlying3,
    utf8Tabs_of_readsT (U8Types.of196 Tryd.lays196) extraU8 h4 h1, whiteTab_of_reads Tryd.lays199 extraW h2,
    tabIs_of_reads (g := 3) (t := 33) (e := 5) (n := 256) (by kernel_rfl) (by kernel_rfl) Tryd.underlying33 Tryd.underlying5 (by kernel_rfl) (by kernel_rfl) h3⟩

end Go.Proofs.Qxb6603659aDoor
