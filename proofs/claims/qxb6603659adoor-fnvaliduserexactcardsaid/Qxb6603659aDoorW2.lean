/-
  validNamePart, validUser, ZZvalidUser.
-/
import Derived.Test.Qxb6603659aDoorW1
import Derived.Lib.OthersKept
namespace Go.Proofs.Qxb6603659aDoor
open Go.RowKit
set_option linter.unusedVariables false

/-- every row of cells that lay there lies there still -/
def Kept (w w' : World) : Prop := ∀ (k : Nat) (cs : Array Value) (t : TypeId) (fr : Nat × Nat), w.heap[k]? = some (Obj.cells cs t fr) → w'.heap[k]? = some (Obj.cells cs t fr)

theorem kept_below {w w' : World} (hb : Below w.heap.size w w') : Kept w w' := fun k cs t fr h => (hb.block k (Array.getElem?_eq_some_iff.1 h).1).trans h
theorem kept_iterAt {w : World} {K : Nat} {s : ByteArray} {pos : Nat} (hk : w.heap[K]? = some (.stringIter s pos)) (pos' : Nat) : Kept w (w.iterAt K s pos') := fun k cs t fr h => by
  have hne : k ≠ K := by intro e; rw [e, hk] at h; cases h
  rw [Lib.iterAt_other w K k s pos' hne]; exact h

theorem cell_kept {w w' : World} (hk : Kept w w') {a : Addr} {v : Value} (h : w.cell? a = some v) : w'.cell? a = some v := by
  unfold World.cell? at h ⊢
  cases ho : w.heap[a.block]? with
  | none => rw [ho] at h; cases h
  | some o =>
    rw [ho] at h
    cases o with
    | cells c t fr => rw [hk _ _ _ _ ho]; exact h
    | _ => cases h

theorem var_kept {w w' : World} {P : Program} (hk : Kept w w') {n : String} {cs : Array Value} (h : w.var? P n = some cs) : w'.var? P n = some cs := by
  unfold World.var? at h ⊢
  cases hg : P.globalNamed n with
  | none => rw [hg] at h; cases h
  | some g =>
    rw [hg] at h
    simp only [Option.bind_some] at h ⊢
    cases ho : w.heap[g]? with
    | none => rw [ho] at h; cases h
    | some o =>
      rw [ho] at h
      cases o with
      | cells c t fr => rw [hk _ _ _ _ ho]; exact h
      | _ => cases h

/-- what the library's functions ask of the world -/
structure Env (w : World) : Prop where
  m : ∃ m, w.cell? ⟨4, 0, none⟩ = some (.int .i64 m)
  tabs : Lib.Utf8Tabs 0 1 w
  white : Lib.WhiteTab 2 w
  props : Lib.TabIs Tryd.prog w "unicode.properties" .u8 Lib.propertiesTab

theorem Env.kept {w w' : World} (h : Env w) (hk : Kept w w') : Env w' where
  m := by obtain ⟨m, hm⟩ := h.m; exact ⟨m, cell_kept hk hm⟩
  tabs := ⟨fun c hc => cell_kept hk (h.tabs.1 c hc), fun i hi => ⟨cell_kept hk (h.tabs.2 i hi).1, cell_kept hk (h.tabs.2 i hi).2⟩⟩
  white := by
    obtain ⟨T, oT, R, oR, c1, c2, c3, c4, c5⟩ := h.white
    exact ⟨T, oT, R, oR, cell_kept hk c1, cell_kept hk c2, cell_kept hk c3, cell_kept hk c4, fun i hi => cell_kept hk (c5 i hi)⟩
  props := var_kept hk h.props

theorem Env.below {w w' : World} (h : Env w) (hb : Below w.heap.size w w') : Env w' := h.kept (kept_below hb)

/-- the iterator over s stands at pos in block K; nothing below it has turned since w1 -/
structure It (w1 w : World) (K : Nat) (s : ByteArray) (pos : Nat) : Prop where
  heap : w.heap[K]? = some (.stringIter s pos)
  env : Env w
  below : Below K w1 w

theorem It.to {w1 w w' : World} {K : Nat} {s : ByteArray} {pos : Nat} (h : It w1 w K s pos) (hb : Below w.heap.size w w') : It w1 w' K s pos := by
  have hK : K < w.heap.size := (Array.getElem?_eq_some_iff.1 h.heap).1
  exact ⟨(hb.block K hK).trans h.heap, h.env.below hb, h.below.trans (hb.mono (by omega))⟩

theorem It.move {w1 w : World} {K : Nat} {s : ByteArray} {pos : Nat} (h : It w1 w K s pos) (pos' : Nat) : It w1 (w.iterAt K s pos') K s pos' :=
  ⟨Lib.iterAt_heap w K s pos pos' h.heap, h.env.kept (kept_iterAt h.heap pos'), Lib.below_iterAt h.below (Nat.le_refl _) s pos'⟩

theorem allR_at (p : Nat → Bool) (s : ByteArray) (pos : Nat) (h : pos < s.size) :
    allR p (s.data.toList.drop pos) = if p (Utf8.decode s pos).1 then allR p (s.data.toList.drop (pos + (Utf8.decode s pos).2)) else false := by
  have hne : s.data.toList.drop pos ≠ [] := by
    intro e
    have := congrArg List.length e
    simp at this
    omega
  rw [allR_step _ _ hne, Lib.decodeL_drop, List.drop_drop]

theorem empty_size (s : ByteArray) (h : s.size = 0) : s.data.toList = [] := List.eq_nil_of_length_eq_zero (by simpa using h)
theorem nonempty_size (s : ByteArray) (h : ¬ s.size = 0) : s.data.toList.isEmpty = false := by
  cases hl : s.data.toList with
  | nil => exfalso; apply h; have := congrArg List.length hl; simpa using this
  | cons _ _ => rfl


theorem VP_eq (s : ByteArray) (h : ¬ s.size = 0) (hv : Lib.validD s.data.toList = true) : VP s.data.toList = allR (fun c => !refB c) s.data.toList := by
  unfold VP; rw [nonempty_size s h, hv]; simp

set_option maxRecDepth 1000000 in
set_option maxHeartbeats 1000000 in
theorem part_any (s : ByteArray) (w : World) (hs : s.size ≤ 9223372036854775807) (hE : Env w) :
    Calls Tryd.prog 15 #[.string s] w fun e w' => e = .returned (.bool (VP s.data.toList)) ∧ Below w.heap.size w w' := by
  by_cases h0 : s.size = 0
  · have hq : s.toList.isEmpty = true := by rw [Lib.toList_data, empty_size s h0]; rfl
    have hVP : VP s.data.toList = false := by unfold VP; rw [empty_size s h0]; rfl
    rw [hVP]
    go_enter Tryd.func15, Tryd.ntmps15
    go_wp2_with fail
    go_ret
    exact ⟨rfl, Below.refl _ _⟩
  · have hne : s.toList.isEmpty = false := by rw [Lib.toList_data]; exact nonempty_size s h0
    cases hv : Lib.validD s.data.toList with
    | false =>
      have hVP : VP s.data.toList = false := by unfold VP; rw [hv]; simp
      rw [hVP]
      go_enter Tryd.func15, Tryd.ntmps15
      go_wp2_with (go_at_call 17; go_must (refine (Any.utf8_ValidString Tryd.lays196 s _ hs hE.tabs).mono ?_); rw [hv]; rintro e w1 ⟨rfl, hb1⟩)
      go_ret
      exact ⟨rfl, hb1⟩
    | true =>
      rw [VP_eq s h0 hv]
      obtain ⟨q, hq⟩ : ∃ q, (fun c => !refB c) = q := ⟨_, rfl⟩
      rw [hq]
      have HQ : Hid ((fun c => !refB c) = q) := hq
      clear hq
      go_enter Tryd.func15, Tryd.ntmps15
      go_wp2_with (go_at_call 17; go_must (refine (Any.utf8_ValidString Tryd.lays196 s _ hs hE.tabs).mono ?_); rw [hv]; rintro e w1 ⟨rfl, hb1⟩)
      have hE1 := hE.below hb1
      have it0 : It w1 (w1.iter s 0) w1.heap.size s 0 := ⟨World.iter_heap _ _ _, hE1.below ((Below.refl _ _).alloc (Nat.le_refl _) _), (Below.refl _ _).alloc (Nat.le_refl _) _⟩
      have HK : Hid (w.heap.size ≤ w1.heap.size) := hb1.size
      generalize w1.iter s 0 = w2 at *
      generalize w1.heap.size = K at *
      go_loopw [4] (fun _ wr => ∃ pos : Nat, It w1 wr K s pos ∧ Hid (allR q (s.data.toList.drop pos) = allR q s.data.toList)) (fun _ wr => s.size - wr.iterPos K)
      case atStart => exact ⟨0, it0, rfl⟩
      case round =>
        obtain ⟨pos, it, HA⟩ := hrel
        by_cases hp : pos < s.size
        · have hstep := allR_at q s pos hp
          have hip := iterPos_of it.heap
          have hw := Lib.width_pos s pos
          have hrl := Lib.rune_le s pos
          have hnx : ∀ ty, (Instr.next (.pointer (some ⟨K, 0, none⟩)) true ty).run Tryd.prog _ = _ := fun ty => Lib.run_next_any_at _ K s pos ty it.heap hp
          have it1 := it.move (pos + (Utf8.decode s pos).2)
          clear it
          generalize Utf8.decode s pos = D at *
          obtain ⟨c, wd⟩ := D
          have HS : Hid (allR q (s.data.toList.drop pos) = if q c then allR q (s.data.toList.drop (pos + wd)) else false) := hstep
          have hw' : 1 ≤ wd := hw
          have hrl' : c ≤ 1114111 := hrl
          have hqc : q c = !(Lib.isSpaceZ (c : Int) || Lib.isControlU (c : Int) || [64, 44, 58, 35, 47, 42].contains c) := by rw [← HQ.out]; rfl
          clear hstep hw hrl HQ
          simp only at it1 hnx
          cases hsp : Lib.isSpaceZ (c : Int) with
          | true =>
            have HF : Hid (allR q s.data.toList = false) := by
              show _ = _
              rw [← HA.out, HS.out, hqc, hsp]; rfl
            clear hqc HA HS
            go_wp2_with (go_at_call 18; go_must (refine (Tryd.unicode_IsSpace_any _ _ (by omega) (by omega) it1.env.white).mono ?_); rw [hsp]; rintro e w3 ⟨rfl, hb3⟩)
            go_ret
            rw [HF.out]
            exact ⟨rfl, hb1.trans ((it1.to hb3).below.mono HK.out)⟩
          | false =>
            cases hct : Lib.isControlU (c : Int) with
            | true =>
              have HF : Hid (allR q s.data.toList = false) := by
                show _ = _
                rw [← HA.out, HS.out, hqc, hsp, hct]; rfl
              clear hqc HA HS
              go_wp2_with (first
                | (go_at_call 18; refine (Tryd.unicode_IsSpace_any _ _ (by omega) (by omega) it1.env.white).mono ?_; rw [hsp]; rintro e w3 ⟨rfl, hb3⟩; have it3 := it1.to hb3)
                | (go_at_call 19; refine (Tryd.unicode_IsControl_all _ _ (by omega) (by omega) it3.env.props).mono ?_; rw [hct]; rintro e w4 ⟨rfl, hb4⟩; have it4 := it3.to hb4))
              go_ret
              rw [HF.out]
              exact ⟨rfl, hb1.trans (it4.below.mono HK.out)⟩
            | false =>
              cases hsx : [64, 44, 58, 35, 47, 42].contains c with
              | true =>
                have HF : Hid (allR q s.data.toList = false) := by
                  show _ = _
                  rw [← HA.out, HS.out, hqc, hsp, hct, hsx]; rfl
                clear hqc HA HS
                go_wp2_with (first
                  | (go_at_call 18; refine (Tryd.unicode_IsSpace_any _ _ (by omega) (by omega) it1.env.white).mono ?_; rw [hsp]; rintro e w3 ⟨rfl, hb3⟩; have it3 := it1.to hb3)
                  | (go_at_call 19; refine (Tryd.unicode_IsControl_all _ _ (by omega) (by omega) it3.env.props).mono ?_; rw [hct]; rintro e w4 ⟨rfl, hb4⟩; have it4 := it3.to hb4)
                  | (go_at_call 20; refine (six_any _ _).mono ?_; rw [hsx]; rintro e w5 ⟨rfl, hb5⟩; have it5 := it4.to hb5))
                go_ret
                rw [HF.out]
                exact ⟨rfl, hb1.trans (it5.below.mono HK.out)⟩
              | false =>
                have HN : Hid (allR q (s.data.toList.drop (pos + wd)) = allR q s.data.toList) := by
                  show _ = _
                  rw [← HA.out, HS.out, hqc, hsp, hct, hsx]; rfl
                clear hqc HA HS
                go_wp2_with (first
                  | (go_at_call 18; refine (Tryd.unicode_IsSpace_any _ _ (by omega) (by omega) it1.env.white).mono ?_; rw [hsp]; rintro e w3 ⟨rfl, hb3⟩; have it3 := it1.to hb3)
                  | (go_at_call 19; refine (Tryd.unicode_IsControl_all _ _ (by omega) (by omega) it3.env.props).mono ?_; rw [hct]; rintro e w4 ⟨rfl, hb4⟩; have it4 := it3.to hb4)
                  | (go_at_call 20; refine (six_any _ _).mono ?_; rw [hsx]; rintro e w5 ⟨rfl, hb5⟩; have it5 := it4.to hb5))
                go_roundw
                case rel => exact ⟨pos + wd, it5, HN⟩
                case measure => rw [iterPos_of it5.heap, hip]; omega
        · have hnx : ∀ ty, (Instr.next (.pointer (some ⟨K, 0, none⟩)) true ty).run Tryd.prog _ = _ := fun ty => Lib.run_next_end_at _ K s pos ty it.heap hp
          have HF : Hid (allR q s.data.toList = true) := by
            show _ = _
            rw [← HA.out, List.drop_eq_nil_of_le (by simp; omega)]; rfl
          clear HA
          go_wp2
          go_ret
          rw [HF.out]
          exact ⟨rfl, hb1.trans (it.below.mono HK.out)⟩

theorem cut_parts (s : ByteArray) : (Lib.cut s.data.toList [64]).1.length ≤ s.size ∧ (Lib.cut s.data.toList [64]).2.1.length ≤ s.size := by
  have e : s.data.toList.length = s.size := by simp
  unfold Lib.cut
  split
  · refine ⟨?_, ?_⟩
    · simp only [List.length_take]; omega
    · simp only [List.length_drop]; omega
  · simp only [List.length_nil]; omega

set_option maxRecDepth 1000000 in
set_option maxHeartbeats 1000000 in
theorem user_any (s : ByteArray) (w : World) (hs : s.size ≤ 4194304) (hE : Env w) :
    Calls Tryd.prog 10 #[.string s] w fun e w' => e = .returned (.bool (VU s.data.toList)) ∧ Below w.heap.size w w' := by
  obtain ⟨m, hm⟩ := hE.m
  obtain ⟨z1, z2⟩ := cut_parts s
  have hVU : VU s.data.toList = ((Lib.cut s.data.toList [64]).2.2 && VP (Lib.cut s.data.toList [64]).1 && VP (Lib.cut s.data.toList [64]).2.1) := rfl
  rw [hVU]
  obtain ⟨C, hC⟩ : ∃ C, Lib.cut s.data.toList [64] = C := ⟨_, rfl⟩
  have hC' : Lib.cut s.data.toList (ByteArray.mk #[64]).data.toList = C := hC
  rw [hC] at z1 z2 ⊢
  obtain ⟨l1, l2, fd⟩ := C
  simp only at z1 z2 ⊢
  have HC : Hid (Lib.cut s.data.toList (ByteArray.mk #[64]).data.toList = (l1, l2, fd)) := hC'
  clear hC hC' hVU
  have e1 : (ByteArray.mk l1.toArray).size ≤ 9223372036854775807 := by show l1.toArray.size ≤ _; simp; omega
  have e2 : (ByteArray.mk l2.toArray).size ≤ 9223372036854775807 := by show l2.toArray.size ≤ _; simp; omega
  have g1 : (ByteArray.mk l1.toArray).data.toList = l1 := rfl
  have g2 : (ByteArray.mk l2.toArray).data.toList = l2 := rfl
  obtain ⟨b1, hb1⟩ : ∃ b, b = ByteArray.mk l1.toArray := ⟨_, rfl⟩
  obtain ⟨b2, hb2⟩ : ∃ b, b = ByteArray.mk l2.toArray := ⟨_, rfl⟩
  rw [← hb1] at e1 g1
  rw [← hb2] at e2 g2
  have H1 : Hid (b1 = ByteArray.mk l1.toArray) := hb1
  have H2 : Hid (b2 = ByteArray.mk l2.toArray) := hb2
  have G1 : Hid (b1.data.toList = l1) := g1
  have G2 : Hid (b2.data.toList = l2) := g2
  clear hb1 hb2 g1 g2
  go_enter Tryd.func10, Tryd.ntmps10
  go_wp2_with fail
  refine (Tryd.strings_Cut s _ m _ (by omega) hm).mono ?_
  rw [HC.out]
  simp only
  rw [← H1.out, ← H2.out]
  rintro e w1 ⟨rfl, n, rfl⟩
  have hB1 := Go.below_drewN (Below.refl w.heap.size w) n
  have hE1 := hE.below hB1
  generalize w.drewN n = w1 at *
  cases fd with
  | false =>
    go_wp2_with fail
    go_ret
    exact ⟨rfl, hB1⟩
  | true =>
    cases hv1 : VP l1 with
    | false =>
      go_wp2_with (go_at_call 15; go_must (refine (part_any b1 _ e1 hE1).mono ?_); rw [G1.out, hv1]; rintro e w2 ⟨rfl, hB2⟩)
      go_ret
      exact ⟨by rw [hv1]; rfl, hB1.trans (hB2.mono hB1.size)⟩
    | true =>
      go_wp2_with fail
      refine (part_any b1 _ e1 hE1).mono ?_
      rw [G1.out, hv1]
      rintro e w2 ⟨rfl, hB2⟩
      have hE2 := hE1.below hB2
      go_wp2_with fail
      refine (part_any b2 _ e2 hE2).mono ?_
      rw [G2.out]
      rintro e w3 ⟨rfl, hB3⟩
      go_wp2
      go_ret
      exact ⟨by simp [hv1], (hB1.trans (hB2.mono hB1.size)).trans (hB3.mono (Nat.le_trans hB1.size hB2.size))⟩

theorem zzuser_any (s : ByteArray) (w : World) (hs : s.size ≤ 4194304) (hE : Env w) :
    Calls Tryd.prog 6 #[.string s] w fun e w' => e = .returned (.bool (VU s.data.toList)) ∧ Below w.heap.size w w' := by
  generalize hv : VU s.data.toList = v
  have HV : Hid (VU s.data.toList = v) := hv
  clear hv
  go_enter Tryd.func6, Tryd.ntmps6
  go_wp2_with (go_at_call 10; go_must (refine (user_any s _ hs hE).mono ?_); rw [HV.out]; rintro e w' ⟨rfl, hb⟩)
  go_ret
  exact ⟨rfl, hb⟩
end Go.Proofs.Qxb6603659aDoor
