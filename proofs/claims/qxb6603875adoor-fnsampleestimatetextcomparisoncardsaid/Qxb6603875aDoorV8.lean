/-
  The law FnSampleEstimateTextComparison.
-/
import Derived.Test.Qxb6603875aDoorV3
import Derived.Test.Qxb6603875aDoorV7
import Derived.Test.Qxb6603875aDoorF4
import Derived.Maps.OwnSet
namespace Go.Proofs.Qxb6603875aDoor
open Go.RowKit Go.Maps Go.WideMaps
set_option linter.unusedVariables false

/-- what a law owes: true, and nothing old has turned -/
def AnsL (w : World) : Ending → World → Prop := fun e w' => e = .returned (.bool true) ∧ Below w.heap.size w w'

theorem noKey_lit : WideAt.IsKeyLit noKey := trivial

theorem holds_put {w : World} {B n : Nat} {D : DataW Unit} (h : MapAt w B n D) (t : Int) : Holds (D.put noKey (.lit (.int .i64 t))) t := by
  unfold Holds
  exact atKey_put_same (World.ownsMap.isMap h) noKey_lit _ _

set_option maxRecDepth 1000000 in
set_option maxHeartbeats 4000000 in
theorem text_walk (v0 v1 v2 v4 v5 : Value) (n0 n1 n2 n4 n5 : Nat) (cmp con kind op : Int) (w : World) (h0 : SlAt IsFlt w v0 n0) (h1 : SlAt IsStr w v1 n1) (h2 : SlAt IsInt w v2 n2) (h4 : SlAt IsStr w v4 n4) (h5 : SlAt IsInt w v5 n5)
    (b0 : n0 ≤ 9223372036854775807) (b1 : n1 ≤ 9223372036854775807) (b2 : n2 ≤ 9223372036854775807) (b4 : n4 ≤ 9223372036854775807) (b5 : n5 ≤ 9223372036854775807) (hcm : cmp ≤ 9223372036854775807) :
    Calls Tryd.prog 6 #[v0, v1, v2, .int .i64 cmp, v4, v5, .int .i64 con, .int .u8 kind, .int .u8 op] w (AnsL w) := by
  have H0 : Hid (SlAt IsFlt w v0 n0) := h0
  have H1 : Hid (SlAt IsStr w v1 n1) := h1
  have H2 : Hid (SlAt IsInt w v2 n2) := h2
  have H4 : Hid (SlAt IsStr w v4 n4) := h4
  have H5 : Hid (SlAt IsInt w v5 n5) := h5
  have hZ := zzBytes_any v0 v1 v2 v4 v5 n0 n1 n2 n4 n5 cmp con kind op w h0 h1 h2 h4 h5 b1 b4
  have HZ : Hid _ := hZ
  clear hZ
  obtain ⟨a0, cap0, rfl, -⟩ := h0
  obtain ⟨a1, cap1, rfl, -⟩ := h1
  obtain ⟨a2, cap2, rfl, -⟩ := h2
  obtain ⟨a4, cap4, rfl, -⟩ := h4
  obtain ⟨a5, cap5, rfl, -⟩ := h5
  go_enter Tryd.func6, Tryd.ntmps6
  go_wp2_with (go_at_call 24; go_must (refine Calls.mono HZ.out ?_); rintro e w' ⟨v, rfl, hw'⟩; obtain rfl := hw'.symm)
  all_goals first
    | (go_ret; exact ⟨rfl, Below.refl _ _⟩)
    | skip
  refine Calls.mono (strBytes_any _ n1 _ H1.out b1) ?_
  rintro e w' ⟨z1, rfl, hw'⟩
  obtain rfl := hw'.symm
  go_wp2_with fail
  refine Calls.mono (strBytes_any _ n4 _ H4.out b4) ?_
  rintro e w' ⟨z2, rfl, hw'⟩
  obtain rfl := hw'.symm
  go_wp2_with fail
  all_goals first
    | (go_ret; exact ⟨rfl, Below.refl _ _⟩)
    | skip
  have hcmp0 : ((kind == 2) = false ∧ (kind == 3) = false) ∧ 0 < cmp := by assumption
  have hk2 : kind ≠ 2 := by simpa using hcmp0.1.1
  have hk3 : kind ≠ 3 := by simpa using hcmp0.1.2
  have hc0 : 0 < cmp := hcmp0.2
  clear hcmp0
  refine Calls.mono (cloneFloats_any _ n0 _ H0.out (by omega)) ?_
  rintro e w1 ⟨u0, rfl, s0, q1⟩
  obtain ⟨x0, y0, rfl, -⟩ := s0
  have B1 : Hid (Below w.heap.size w w1) := q1
  go_wp2_with fail
  refine Calls.mono (cloneStrings_any _ n1 _ (H1.out.below B1.out) (by omega)) ?_
  rintro e w2 ⟨u1, rfl, s1, q2⟩
  have S1 : Hid (SlAt IsStr w2 u1 n1) := s1
  obtain ⟨x1, y1, rfl, -⟩ := s1
  have B2 : Hid (Below w.heap.size w w2) := B1.out.trans (q2.mono q1.size)
  clear q1 q2 B1
  go_wp2_with fail
  refine Calls.mono (cloneInts_any _ n2 _ (H2.out.below B2.out) (by omega)) ?_
  rintro e w3 ⟨u2, rfl, s2, q3⟩
  have S2 : Hid (SlAt IsInt w3 u2 n2) := s2
  have S1' : Hid (SlAt IsStr w3 _ n1) := S1.out.below q3
  obtain ⟨x2, y2, rfl, -⟩ := s2
  have B3 : Hid (Below w.heap.size w w3) := B2.out.trans (q3.mono B2.out.size)
  clear q3 B2 S1
  go_wp2_with fail
  refine Calls.mono (cloneStrings_any _ n4 _ (H4.out.below B3.out) (by omega)) ?_
  rintro e w4 ⟨u4, rfl, s4, q4⟩
  have S4 : Hid (SlAt IsStr w4 u4 n4) := s4
  have S1 : Hid (SlAt IsStr w4 _ n1) := S1'.out.below q4
  have S2' : Hid (SlAt IsInt w4 _ n2) := S2.out.below q4
  obtain ⟨x4, y4, rfl, -⟩ := s4
  have B4 : Hid (Below w.heap.size w w4) := B3.out.trans (q4.mono B3.out.size)
  clear q4 B3 S1' S2
  go_wp2_with fail
  refine Calls.mono (cloneInts_any _ n5 _ (H5.out.below B4.out) (by omega)) ?_
  rintro e w5 ⟨u5, rfl, s5, q5⟩
  have S5 : Hid (SlAt IsInt w5 u5 n5) := s5
  have S1' : Hid (SlAt IsStr w5 _ n1) := S1.out.below q5
  have S2 : Hid (SlAt IsInt w5 _ n2) := S2'.out.below q5
  have S4' : Hid (SlAt IsStr w5 _ n4) := S4.out.below q5
  obtain ⟨x5, y5, rfl, -⟩ := s5
  have B5 : Hid (Below w.heap.size w w5) := B4.out.trans (q5.mono B4.out.size)
  clear q5 B4 S1 S2' S4 H0 H1 H2 H4 H5 HZ
  go_wp2_with fail
  refine Calls.mono (counts_any _ _ n1 n2 _ S1'.out S2.out (by omega) (by omega)) ?_
  rintro e w6 ⟨D, rfl, m6, q6⟩
  have M6 : Hid (MapAt w6 w5.heap.size n1 D) := m6
  have S1 : Hid (SlAt IsStr w6 _ n1) := S1'.out.below q6
  have S2' : Hid (SlAt IsInt w6 _ n2) := S2.out.below q6
  have S4 : Hid (SlAt IsStr w6 _ n4) := S4'.out.below q6
  have S5' : Hid (SlAt IsInt w6 _ n5) := S5.out.below q6
  have B6 : Hid (Below w.heap.size w w6) := B5.out.trans (q6.mono B5.out.size)
  have HBM : Hid (w.heap.size ≤ w5.heap.size) := B5.out.size
  generalize w5.heap.size = BM at *
  clear q6 m6 B5 S1' S2 S4' S5
  go_wp2_with fail
  refine Calls.mono (counts_any _ _ n4 n5 _ S4.out S5'.out (by omega) (by omega)) ?_
  rintro e w7 ⟨Dw, rfl, -, q7⟩
  have M7 : Hid (MapAt w7 BM n1 D) := M6.out.below q7
  have S1' : Hid (SlAt IsStr w7 _ n1) := S1.out.below q7
  have S2 : Hid (SlAt IsInt w7 _ n2) := S2'.out.below q7
  have B7 : Hid (Below w.heap.size w w7) := B6.out.trans (q7.mono B6.out.size)
  generalize w6.heap.size = BW at *
  clear q7 B6 S1 S2' S4 S5' M6
  obtain ⟨t, hlk, hat, hwf⟩ := World.ownsMap.lookup_int M7.out law Tryd.underlying35 Tryd.underlying3 (zeroE w7) noKey_ok
  have HT : Hid (Holds D t) := hat
  clear hat
  go_wp2_with fail
  all_goals first
    | (go_ret; exact ⟨rfl, B7.out⟩)
    | skip
  have g0 : 0 ≤ t := by omega
  have g1 : t ≤ cmp := by omega
  clear hlk hwf
  obtain ⟨re, SE⟩ := share_ex t cmp g0 g1 hc0 hcm
  obtain ⟨rn, SN⟩ := share_ex (cmp - t) cmp (by omega) (by omega) hc0 hcm
  have hback : cmp - (cmp - t) = t := by omega
  have ord_h := half_self
  have ord_e := SE.self
  have ord_n := SN.self
  have CE : Hid (∀ wx, MapAt wx BM n1 D → Calls Tryd.prog 23 #[.slice x0 n0 y0, .map (some BM), .int .i64 cmp, .map (some BW), .int .i64 con, .int .u8 kind, .int .u8 1, .slice none 0 0] wx (AnsV (.float .f64 re) wx)) :=
    fun wx hm => zzestimate_any _ x0 n0 y0 BM n1 D cmp BW con kind 1 none 0 0 wx hm (fun w' S A hR => estimate_eq S A BM n1 D cmp kind t re w' hR hk2 hk3 HT.out SE.quo)
  have CN : Hid (∀ wx, MapAt wx BM n1 D → Calls Tryd.prog 23 #[.slice x0 n0 y0, .map (some BM), .int .i64 cmp, .map (some BW), .int .i64 con, .int .u8 kind, .int .u8 2, .slice none 0 0] wx (AnsV (.float .f64 rn) wx)) :=
    fun wx hm => zzestimate_any _ x0 n0 y0 BM n1 D cmp BW con kind 2 none 0 0 wx hm (fun w' S A hR => estimate_ne S A BM n1 D cmp kind t rn w' hR hk2 hk3 HT.out SN.quo g0 g1 hcm)
  have CO : Hid (op ≠ 1 → op ≠ 2 → ∀ wx, MapAt wx BM n1 D → Calls Tryd.prog 23 #[.slice x0 n0 y0, .map (some BM), .int .i64 cmp, .map (some BW), .int .i64 con, .int .u8 kind, .int .u8 op, .slice none 0 0] wx (AnsV (.float .f64 4602678819172646912) wx)) :=
    fun o1 o2 wx hm => zzestimate_any _ x0 n0 y0 BM n1 D cmp BW con kind op none 0 0 wx hm (fun w' S A hR => estimate_other S A BM n1 D cmp kind t op w' hR hk2 hk3 HT.out o1 o2)
  have CL : Hid (∀ wx, MapAt wx BM n1 D → Calls Tryd.prog 23 #[.slice x0 n0 y0, .map (some BM), .int .i64 cmp, .map (some BW), .int .i64 con, .int .u8 3, .int .u8 op, .slice none 0 0] wx (AnsV (.float .f64 4602678819172646912) wx)) :=
    fun wx hm => zzestimate_any _ x0 n0 y0 BM n1 D cmp BW con 3 op none 0 0 wx hm (fun w' S A hR => estimate_like S A BM n1 D cmp op w' hR)
  have CS : Hid (∀ wx B2 m2 D2, MapAt wx B2 m2 D2 → Holds D2 (cmp - t) → Calls Tryd.prog 23 #[.slice x0 n0 y0, .map (some B2), .int .i64 cmp, .map (some BW), .int .i64 con, .int .u8 kind, .int .u8 1, .slice none 0 0] wx (AnsV (.float .f64 rn) wx)) :=
    fun wx B2 m2 D2 hm hh => zzestimate_any _ x0 n0 y0 B2 m2 D2 cmp BW con kind 1 none 0 0 wx hm (fun w' S A hR => estimate_eq S A B2 m2 D2 cmp kind (cmp - t) rn w' hR hk2 hk3 hh SN.quo)
  have CT : Hid (∀ wx B2 m2 D2, MapAt wx B2 m2 D2 → Holds D2 (cmp - t) → Calls Tryd.prog 23 #[.slice x0 n0 y0, .map (some B2), .int .i64 cmp, .map (some BW), .int .i64 con, .int .u8 kind, .int .u8 2, .slice none 0 0] wx (AnsV (.float .f64 re) wx)) :=
    fun wx B2 m2 D2 hm hh => zzestimate_any _ x0 n0 y0 B2 m2 D2 cmp BW con kind 2 none 0 0 wx hm (fun w' S A hR => estimate_ne S A B2 m2 D2 cmp kind (cmp - t) re w' hR hk2 hk3 hh (by rw [hback]; exact SE.quo) (by omega) (by omega) hcm)
  have hT : (t = 0 ∧ re = 0 ∧ rn = 4607182418800017408) ∨ (t = cmp ∧ re = 4607182418800017408 ∧ rn = 0) ∨ (t ≠ 0 ∧ t ≠ cmp) := by
    by_cases h1 : t = 0
    · exact Or.inl ⟨h1, SE.zero h1, SN.full (by omega)⟩
    · by_cases h2 : t = cmp
      · exact Or.inr (Or.inl ⟨h2, SE.full h2, SN.zero (by omega)⟩)
      · exact Or.inr (Or.inr ⟨h1, h2⟩)
  have HE : Hid (Share t cmp re) := SE
  have HN : Hid (Share (cmp - t) cmp rn) := SN
  have HTs : Hid _ := hT
  clear hT SE SN hback HT hk2 hk3
  refine Calls.mono (CE.out _ M7.out) ?_
  rintro e w8 ⟨rfl, q8⟩
  have M8 : Hid (MapAt w8 BM n1 D) := M7.out.below q8
  have S1 : Hid (SlAt IsStr w8 _ n1) := S1'.out.below q8
  have S2' : Hid (SlAt IsInt w8 _ n2) := S2.out.below q8
  have B8 : Hid (Below w.heap.size w w8) := B7.out.trans (q8.mono B7.out.size)
  clear q8 B7 S1' S2 M7
  go_wp2_with fail
  refine Calls.mono (CN.out _ M8.out) ?_
  rintro e w9 ⟨rfl, q9⟩
  have M9 : Hid (MapAt w9 BM n1 D) := M8.out.below q9
  have S1' : Hid (SlAt IsStr w9 _ n1) := S1.out.below q9
  have S2 : Hid (SlAt IsInt w9 _ n2) := S2'.out.below q9
  have B9 : Hid (Below w.heap.size w w9) := B8.out.trans (q9.mono B8.out.size)
  clear q9 B8 S1 S2' M8
  go_wp2_with fail
  have hgot : ∃ rg, (∀ wx, MapAt wx BM n1 D → Calls Tryd.prog 23 #[.slice x0 n0 y0, .map (some BM), .int .i64 cmp, .map (some BW), .int .i64 con, .int .u8 kind, .int .u8 op, .slice none 0 0] wx (AnsV (.float .f64 rg) wx)) ∧ (op = 1 ∧ re = rg ∨ op = 2 ∧ rn = rg ∨ (op == 1) = false ∧ (op == 2) = false ∧ 4602678819172646912 = rg) := by
    by_cases o1 : op = 1
    · subst o1; exact ⟨re, CE.out, Or.inl ⟨rfl, rfl⟩⟩
    · by_cases o2 : op = 2
      · subst o2; exact ⟨rn, CN.out, Or.inr (Or.inl ⟨rfl, rfl⟩)⟩
      · exact ⟨_, CO.out o1 o2, Or.inr (Or.inr ⟨beq_eq_false_iff_ne.2 o1, beq_eq_false_iff_ne.2 o2, rfl⟩)⟩
  obtain ⟨rg, cg, hop⟩ := hgot
  refine Calls.mono (cg _ M9.out) ?_
  clear cg
  rintro e w10 ⟨rfl, q10⟩
  have M10 : Hid (MapAt w10 BM n1 D) := M9.out.below q10
  have S1 : Hid (SlAt IsStr w10 _ n1) := S1'.out.below q10
  have S2' : Hid (SlAt IsInt w10 _ n2) := S2.out.below q10
  have B10 : Hid (Below w.heap.size w w10) := B9.out.trans (q10.mono B9.out.size)
  clear q10 B9 S1' S2 M9
  rcases hop with ⟨rfl, rfl⟩ | ⟨rfl, rfl⟩ | ⟨o1, o2, rfl⟩
  all_goals
    go_wp2_with fail
    refine Calls.mono (CL.out _ M10.out) ?_
    rintro e w11 ⟨rfl, q11⟩
    have S1' : Hid (SlAt IsStr w11 _ n1) := S1.out.below q11
    have S2 : Hid (SlAt IsInt w11 _ n2) := S2'.out.below q11
    have B11 : Hid (Below w.heap.size w w11) := B10.out.trans (q11.mono B10.out.size)
    clear q11 B10 S1 S2' M10 CE CN CO CL
    rcases HTs.out with ⟨t1, t2, t3⟩ | ⟨t1, t2, t3⟩ | ⟨t1, t2⟩
    · have f1 : (t == 0) = true := by simp [t1]
      have f2 : (t == cmp) = false := beq_eq_false_iff_ne.2 (by omega)
      have f3 : FloatKind.f64.format.order re 0 = some .eq := HE.out.at_zero t1
      have f4 : FloatKind.f64.format.order rn 0 = some .gt := HN.out.at_pos (by omega)
      have f5 : FloatKind.f64.format.order re 4607182418800017408 = some .lt := by rw [t2]; exact order_lt (by decide) (by decide) (by decide)
      have f6 : FloatKind.f64.format.order rn 4607182418800017408 = some .eq := HN.out.at_full (by omega)
      clear t1 t2 t3 HTs HE HN
      go_wp2_with fail
      refine Calls.mono (counts_any _ _ n1 n2 _ S1'.out S2.out (by omega) (by omega)) ?_
      rintro e w12 ⟨D2, rfl, m12, q12⟩
      have m12' : w12.ownsMap Tryd.prog 9 (plainElem Tryd.prog 3) w11.heap.size n1 D2 := m12
      have B12 : Hid (Below w.heap.size w w12) := B11.out.trans (q12.mono B11.out.size)
      have HB2 : Hid (w.heap.size ≤ w11.heap.size) := B11.out.size
      have HH : Hid (Holds (D2.put noKey (.lit (.int .i64 (cmp - t)))) (cmp - t)) := holds_put m12 (cmp - t)
      generalize w11.heap.size = BS at *
      clear q12 m12 B11 S1' S2
      go_wp2_with (at_mapUpdate; refine wpList_mapUpdate_own _ rfl _ _ _ 35 rfl 9 3 law Tryd.underlying35 _ BS n1 _ rfl m12' (by unfold maxLen; omega) _ _ _ rfl rfl noKey_ok _ [] (plainElem_int Tryd.underlying3 (WalkArith.wf_i64 (by omega))) ?_)
      intro w13 hown13 hgrow13
      have M13 : Hid (MapAt w13 BS (n1 + 1) (D2.put noKey (.lit (.int .i64 (cmp - t))))) := hown13
      have B13 : Hid (Below w.heap.size w w13) := B12.out.grown hgrow13 B12.out.size (fun j hj => by cases hj; exact HB2.out)
      clear hown13 hgrow13 m12' B12 HB2
      go_wp2_with fail
      refine Calls.mono (CS.out _ _ _ _ M13.out HH.out) ?_
      rintro e w14 ⟨rfl, q14⟩
      have M14 : Hid (MapAt w14 BS (n1 + 1) (D2.put noKey (.lit (.int .i64 (cmp - t))))) := M13.out.below q14
      have B14 : Hid (Below w.heap.size w w14) := B13.out.trans (q14.mono B13.out.size)
      clear q14 M13 B13
      go_wp2_with fail
      refine Calls.mono (CT.out _ _ _ _ M14.out HH.out) ?_
      rintro e w15 ⟨rfl, q15⟩
      have B15 : Hid (Below w.heap.size w w15) := B14.out.trans (q15.mono B14.out.size)
      clear q15 M14 B14
      go_wp2
      go_ret
      exact ⟨by first | rfl | simp [ord_e, ord_n], B15.out⟩
    · have f1 : (t == 0) = false := beq_eq_false_iff_ne.2 (by omega)
      have f2 : (t == cmp) = true := by simp [t1]
      have f3 : FloatKind.f64.format.order re 0 = some .gt := HE.out.at_pos (by omega)
      have f4 : FloatKind.f64.format.order rn 0 = some .eq := HN.out.at_zero (by omega)
      have f5 : FloatKind.f64.format.order re 4607182418800017408 = some .eq := HE.out.at_full t1
      have f6 : FloatKind.f64.format.order rn 4607182418800017408 = some .lt := by rw [t3]; exact order_lt (by decide) (by decide) (by decide)
      clear t1 t2 t3 HTs HE HN
      go_wp2_with fail
      refine Calls.mono (counts_any _ _ n1 n2 _ S1'.out S2.out (by omega) (by omega)) ?_
      rintro e w12 ⟨D2, rfl, m12, q12⟩
      have m12' : w12.ownsMap Tryd.prog 9 (plainElem Tryd.prog 3) w11.heap.size n1 D2 := m12
      have B12 : Hid (Below w.heap.size w w12) := B11.out.trans (q12.mono B11.out.size)
      have HB2 : Hid (w.heap.size ≤ w11.heap.size) := B11.out.size
      have HH : Hid (Holds (D2.put noKey (.lit (.int .i64 (cmp - t)))) (cmp - t)) := holds_put m12 (cmp - t)
      generalize w11.heap.size = BS at *
      clear q12 m12 B11 S1' S2
      go_wp2_with (at_mapUpdate; refine wpList_mapUpdate_own _ rfl _ _ _ 35 rfl 9 3 law Tryd.underlying35 _ BS n1 _ rfl m12' (by unfold maxLen; omega) _ _ _ rfl rfl noKey_ok _ [] (plainElem_int Tryd.underlying3 (WalkArith.wf_i64 (by omega))) ?_)
      intro w13 hown13 hgrow13
      have M13 : Hid (MapAt w13 BS (n1 + 1) (D2.put noKey (.lit (.int .i64 (cmp - t))))) := hown13
      have B13 : Hid (Below w.heap.size w w13) := B12.out.grown hgrow13 B12.out.size (fun j hj => by cases hj; exact HB2.out)
      clear hown13 hgrow13 m12' B12 HB2
      go_wp2_with fail
      refine Calls.mono (CS.out _ _ _ _ M13.out HH.out) ?_
      rintro e w14 ⟨rfl, q14⟩
      have M14 : Hid (MapAt w14 BS (n1 + 1) (D2.put noKey (.lit (.int .i64 (cmp - t))))) := M13.out.below q14
      have B14 : Hid (Below w.heap.size w w14) := B13.out.trans (q14.mono B13.out.size)
      clear q14 M13 B13
      go_wp2_with fail
      refine Calls.mono (CT.out _ _ _ _ M14.out HH.out) ?_
      rintro e w15 ⟨rfl, q15⟩
      have B15 : Hid (Below w.heap.size w w15) := B14.out.trans (q15.mono B14.out.size)
      clear q15 M14 B14
      go_wp2
      go_ret
      exact ⟨by first | rfl | simp [ord_e, ord_n], B15.out⟩
    · have f1 : (t == 0) = false := beq_eq_false_iff_ne.2 t1
      have f2 : (t == cmp) = false := beq_eq_false_iff_ne.2 t2
      have f3 : FloatKind.f64.format.order re 0 = some .gt := HE.out.at_pos t1
      have f4 : FloatKind.f64.format.order rn 0 = some .gt := HN.out.at_pos (by omega)
      have f5 := HE.out.at_one
      have f6 := HN.out.at_one
      clear t1 t2 HTs HE HN
      rcases f5 with f5 | f5 <;> rcases f6 with f6 | f6
      all_goals
        go_wp2_with fail
        refine Calls.mono (counts_any _ _ n1 n2 _ S1'.out S2.out (by omega) (by omega)) ?_
        rintro e w12 ⟨D2, rfl, m12, q12⟩
        have m12' : w12.ownsMap Tryd.prog 9 (plainElem Tryd.prog 3) w11.heap.size n1 D2 := m12
        have B12 : Hid (Below w.heap.size w w12) := B11.out.trans (q12.mono B11.out.size)
        have HB2 : Hid (w.heap.size ≤ w11.heap.size) := B11.out.size
        have HH : Hid (Holds (D2.put noKey (.lit (.int .i64 (cmp - t)))) (cmp - t)) := holds_put m12 (cmp - t)
        generalize w11.heap.size = BS at *
        clear q12 m12 B11 S1' S2
        go_wp2_with (at_mapUpdate; refine wpList_mapUpdate_own _ rfl _ _ _ 35 rfl 9 3 law Tryd.underlying35 _ BS n1 _ rfl m12' (by unfold maxLen; omega) _ _ _ rfl rfl noKey_ok _ [] (plainElem_int Tryd.underlying3 (WalkArith.wf_i64 (by omega))) ?_)
        intro w13 hown13 hgrow13
        have M13 : Hid (MapAt w13 BS (n1 + 1) (D2.put noKey (.lit (.int .i64 (cmp - t))))) := hown13
        have B13 : Hid (Below w.heap.size w w13) := B12.out.grown hgrow13 B12.out.size (fun j hj => by cases hj; exact HB2.out)
        clear hown13 hgrow13 m12' B12 HB2
        go_wp2_with fail
        refine Calls.mono (CS.out _ _ _ _ M13.out HH.out) ?_
        rintro e w14 ⟨rfl, q14⟩
        have M14 : Hid (MapAt w14 BS (n1 + 1) (D2.put noKey (.lit (.int .i64 (cmp - t))))) := M13.out.below q14
        have B14 : Hid (Below w.heap.size w w14) := B13.out.trans (q14.mono B13.out.size)
        clear q14 M13 B13
        go_wp2_with fail
        refine Calls.mono (CT.out _ _ _ _ M14.out HH.out) ?_
        rintro e w15 ⟨rfl, q15⟩
        have B15 : Hid (Below w.heap.size w w15) := B14.out.trans (q15.mono B14.out.size)
        clear q15 M14 B14
        go_wp2
        go_ret
        exact ⟨by first | rfl | simp [ord_e, ord_n], B15.out⟩
end Go.Proofs.Qxb6603875aDoor
