/-
  (*Config).Names.
-/
import Derived.Test.Qxb6604153aDoorN6
namespace Go.Proofs.Qxb6604153aDoor
open Go.RowKit Go.Deep Go.Maps Go.WideMaps
set_option linter.unusedVariables false

theorem OwnS.alloc {w : World} {B : Nat} {v : Value} {l : List ByteArray} (h : OwnS w B v l) (o : Obj) : OwnS (w.alloc o) B v l := ⟨h.own.alloc o, h.nil⟩
theorem OwnS.grown {w w' : World} {M : Nat} {v : Value} {l : List ByteArray} (h : OwnS w (M + 1) v l) (hg : w.grownBy w' (some M)) : OwnS w' (M + 1) v l := by
  refine ⟨h.own.kept hg ?_, h.nil⟩
  cases e : v.ownBlock with
  | none => exact Or.inl rfl
  | some b =>
    have := (World.ownsRow.lt h.own b e).1
    exact Or.inr (fun e => by cases e; omega)
theorem OwnS.below {w w' : World} {B : Nat} {v : Value} {l : List ByteArray} (h : OwnS w B v l) (hb : Below w.heap.size w w') : OwnS w' B v l := by
  refine ⟨?_, h.nil⟩
  obtain ⟨h1, h2⟩ := h.own
  refine ⟨h1, ?_⟩
  rcases h2 with h2 | ⟨g, cap, cur, e, hg, hc, rest⟩
  · exact Or.inl h2
  · exact Or.inr ⟨g, cap, cur, e, hg, (hb.block g (Array.getElem?_eq_some_iff.1 hc).1).trans hc, rest⟩

theorem MapB.below {w w' : World} {B N n : Nat} {D : DataW Unit} (h : MapB w B n D) (hB : B < N) (hb : Below N w w') : MapB w' B n D := by
  obtain ⟨es, clock, hbk, F, hs, hD⟩ := h
  exact ⟨es, clock, (hb.block B hB).trans hbk, F, hs, hD⟩

/-- behind k rounds: the map in block M, the names in v -/
structure Nm (w1 wr : World) (M : Nat) (rs : List Rec) (low : ByteArray) (k : Nat) (v : Value) : Prop where
  seen : ∃ D, MapB wr M k D ∧ Seen D (seenB rs low k)
  row : OwnS wr (M + 1) v (namesTo rs low k)
  below : Below M w1 wr

theorem Nm.lt {w1 wr : World} {M k : Nat} {rs : List Rec} {low : ByteArray} {v : Value} (h : Nm w1 wr M rs low k v) : M < wr.heap.size := by
  obtain ⟨D, h1, _⟩ := h.seen
  exact World.ownsMap.lt h1

theorem Nm.stay {w1 wr : World} {M k : Nat} {rs : List Rec} {low : ByteArray} {v : Value} (h : Nm w1 wr M rs low k v) (o : Obj) (h1 : ∀ p, seenB rs low (k + 1) p = seenB rs low k p) (h2 : namesTo rs low (k + 1) = namesTo rs low k) : Nm w1 (wr.alloc o) M rs low (k + 1) v := by
  have hl := h.lt
  obtain ⟨⟨D, m1, m2⟩, hr, hb⟩ := h
  exact ⟨⟨D, (World.ownsMap.alloc m1 o).mono (by omega), fun p => by rw [h1 p]; exact m2 p⟩, by rw [h2]; exact hr.alloc o, hb.alloc (by omega) o⟩

theorem Nm.start (w1 : World) (rs : List Rec) (low : ByteArray) : Nm w1 (w1.alloc (.map #[] 0)) w1.heap.size rs low 0 (.slice none 0 0) :=
  ⟨⟨.map [], World.ownsMap_made _ _ _ _, fun p => rfl⟩, ownS_nil _ _, (Below.refl _ _).alloc (Nat.le_refl _) _⟩

theorem empty_of {u : ByteArray} (h : u = ⟨#[]⟩) : u.toList.isEmpty = true := by subst h; rw [ByteArray.toList_eq]; rfl
theorem nonempty_of {u : ByteArray} (h : u ≠ ⟨#[]⟩) : u.toList.isEmpty = false := by
  rw [ByteArray.toList_eq]
  cases u with
  | mk d =>
    cases d with
    | mk l =>
      cases l with
      | nil => exact absurd rfl h
      | cons a l => rfl

/-- the answer: a row of its own with the names -/
def AnsN (l : List ByteArray) (w : World) : Ending → World → Prop := fun e w' => ∃ v, e = .returned v ∧ OwnS w' w.heap.size v l ∧ Below w.heap.size w w'
/-- what is asked of strings.ToLower -/
def LowAt (p low : ByteArray) (w : World) : Prop := ∀ w', Below w.heap.size w w' → Calls Tryd.prog 10 #[.string p] w' (AnsV (.string low) w')

theorem own_base {w : World} {B B' : Nat} {v : Value} {l : List ByteArray} (h : OwnS w B v l) (hB : B' ≤ B) : OwnS w B' v l := by
  refine ⟨⟨h.own.1, ?_⟩, h.nil⟩
  rcases h.own.2 with h2 | ⟨g, cap, cur, e, hg, rest⟩
  · exact Or.inl h2
  · exact Or.inr ⟨g, cap, cur, e, by omega, rest⟩

set_option maxRecDepth 100000 in
set_option maxHeartbeats 2000000 in
theorem names_any (C : Nat) (p low : ByteArray) (rs : List Rec) (w : World) (hC : Cfg w C rs) (bl : rs.length ≤ 4096) (hs : ∀ j, j < rs.length → (recAt rs j).Small 1048576) (hlow : LowAt p low w) :
    Calls Tryd.prog 9 #[.pointer (some ⟨C, 0, none⟩), .string p] w (AnsN (namesTo rs low rs.length) w) := by
  obtain ⟨a, cap, c0, hrec⟩ := cfg_recs hC
  have hCl : C < w.heap.size := by
    obtain ⟨v, hC, _⟩ := hC
    exact (Array.getElem?_eq_some_iff.1 hC).1
  obtain ⟨_, _, e, hrec⟩ := hrec
  cases e
  have HR : Hid _ := hrec
  have HS : Hid _ := hs
  have HW : Hid (LowAt p low w) := hlow
  clear hC hrec hs hlow
  generalize hn : rs.length = n at *
  have HNL : Hid (rs.length = n) := hn
  clear hn
  have hmm := @run_makeMap Tryd.prog
  go_enter Tryd.func9, Tryd.ntmps9
  go_wp2_with fail
  refine Calls.mono (HW.out w (Below.refl _ _)) ?_
  rintro e w1 ⟨rfl, hb1⟩
  have c1 : w1.cell? ⟨C, 0, none⟩ = some (.slice a n cap) := (hb1.cell (by exact hCl)).trans c0
  have hsz : w.heap.size ≤ w1.heap.size := hb1.size
  have HB1 : Hid (Below w.heap.size w w1) := hb1
  clear hb1 c0 HW
  have hCl1 : C < w1.heap.size := by omega
  have c2 : (w1.alloc (.map #[] 0)).cell? ⟨C, 0, none⟩ = some (.slice a n cap) := (World.cell?_of_block (by exact blk_alloc_lt _ _ _ hCl1)).trans c1
  go_wp2_with fail
  have HI : Hid (Nm w1 (w1.alloc (.map #[] 0)) w1.heap.size rs low 0 (.slice none 0 0)) := Nm.start w1 rs low
  generalize w1.alloc (.map #[] 0) = w3 at *
  generalize hM : w1.heap.size = M at *
  clear hmm c2
  go_loopw [18, 5, 8, 9] (fun i nm _ _ wr => ∃ (k : Nat) (na : Option Addr) (nc : Nat), k ≤ n ∧ i = .int .i64 k ∧ nm = .slice na (namesTo rs low k).length nc ∧ Hid (Nm w1 wr M rs low k (.slice na (namesTo rs low k).length nc))) (fun i _ _ _ _ => n - (intOf i).toNat)
  case atStart => exact ⟨0, none, 0, Nat.zero_le _, rfl, rfl, HI⟩
  case round =>
    obtain ⟨k, na, nc, hk, rfl, rfl, HK⟩ := hrel
    clear HI
    by_cases hkl : k < n
    · rcases HR.out with e | ⟨b, off, e, hlt, hc⟩
      · omega
      · cases e
        obtain ⟨d0, d1, d2, d3, d4⟩ := ((hc k hkl).below hlt HB1.out).below (B := M) (by omega) HK.out.below
        obtain ⟨s0, s1, s2, s3⟩ := HS.out k hkl
        have hnm := nameOf_size (recAt rs k) (HS.out k hkl)
        obtain ⟨⟨D, m1, m2⟩, hrow, hbel⟩ := HK.out
        have hMl : M < wr.heap.size := HK.out.lt
        have hle := namesTo_le rs low k
        have hlk : ∀ o : Obj, (Instr.lookup 40 (.map (some M)) (.string (nameOf (recAt rs k))) false).run Tryd.prog (wr.alloc o) = .ok (.bool (seenB rs low k (nameOf (recAt rs k)))) (wr.alloc o) := fun o => look_bool (World.ownsMap.alloc m1 o) m2 _ (by unfold maxLen; omega)
        have hkey := keyS_ok (nameOf (recAt rs k)) (by unfold maxLen; omega)
        have HM : Hid (wr.ownsMap Tryd.prog 9 (plainElem Tryd.prog 4) M k D) := m1
        have HO : Hid (OwnS wr (M + 1) (.slice na (namesTo rs low k).length nc) (namesTo rs low k)) := hrow
        have HB : Hid (Below M w1 wr) := hbel
        have hstr := str_eq (recAt rs k).s low
        by_cases hin : (recAt rs k).s = low
        · have hse : ((recAt rs k).s.toList == low.toList) = true := by rw [hstr, decide_eq_true hin]
          cases hsn : seenB rs low k (nameOf (recAt rs k)) with
          | true =>
            have HN : Hid (∀ o : Obj, Nm w1 (wr.alloc o) M rs low (k + 1) (.slice na (namesTo rs low (k + 1)).length nc)) := fun o => by
              have := HK.out.stay o (seen_again hsn) (names_again hsn)
              rwa [← names_again hsn] at this
            have HL : (namesTo rs low (k + 1)).length = (namesTo rs low k).length := by rw [names_again hsn]
            rw [hsn] at hlk
            clear hc HK m1 m2 hrow hbel hstr hin hsn hkey
            by_cases hu : (recAt rs k).u = ⟨#[]⟩
            · have hue : (recAt rs k).u.toList.isEmpty = true := empty_of hu
              have hn0 : nameOf (recAt rs k) = (recAt rs k).s ++ ⟨#[46]⟩ ++ (recAt rs k).k := if_pos hu
              rw [hn0] at hlk
              clear hu hn0 hnm
              generalize recAt rs k = r at *
              go_wp2
              exact ⟨⟨k + 1, na, _, by omega, by go_num, by rw [HL], HN.out _⟩, by simp [intOf]; omega⟩
            · have hue : (recAt rs k).u.toList.isEmpty = false := nonempty_of hu
              have hn0 : nameOf (recAt rs k) = (recAt rs k).s ++ ⟨#[46]⟩ ++ (recAt rs k).u ++ ⟨#[46]⟩ ++ (recAt rs k).k := if_neg hu
              rw [hn0] at hlk
              clear hu hn0 hnm
              generalize recAt rs k = r at *
              go_wp2
              exact ⟨⟨k + 1, na, _, by omega, by go_num, by rw [HL], HN.out _⟩, by simp [intOf]; omega⟩
          | false =>
            have HL : (namesTo rs low (k + 1)).length = (namesTo rs low k).length + 1 := by rw [names_new hin hsn]; simp
            have HST : Hid (∀ (w2 : World) (o : Obj) (w4 : World) (v : Value), MapB w2 M (k + 1) (D.put (keyS (nameOf (recAt rs k))) (.lit (.bool true))) → Below M w1 w2 → M < w2.heap.size → OwnS w4 (M + 1) v (namesTo rs low k ++ [nameOf (recAt rs k)]) → Below (M + 1) (w2.alloc o) w4 → Nm w1 w4 M rs low (k + 1) v) := by
              intro w2 o w4 v q1 q2 q3 q4 q5
              refine ⟨⟨_, (MapB.below (World.ownsMap.alloc q1 o) (Nat.lt_succ_self M) q5), seen_put m1 m2 hin⟩, ?_, (q2.alloc (by omega) o).trans (q5.mono (by omega))⟩
              rw [names_new hin hsn]
              exact q4
            rw [hsn] at hlk
            clear hc HK m1 m2 hrow hbel hstr hin hsn
            by_cases hu : (recAt rs k).u = ⟨#[]⟩
            · have hue : (recAt rs k).u.toList.isEmpty = true := empty_of hu
              have hn0 : nameOf (recAt rs k) = (recAt rs k).s ++ ⟨#[46]⟩ ++ (recAt rs k).k := if_pos hu
              rw [hn0] at hlk hkey
              have HNM : Hid _ := hn0
              clear hu hn0 hnm
              generalize recAt rs k = r at *
              go_wp2_with (at_mapUpdate; refine wpList_mapUpdate_own _ rfl _ _ _ 40 rfl 9 4 law Tryd.underlying40 _ M k _ rfl (HM.out.alloc _) (by unfold maxLen; omega) _ _ _ rfl rfl hkey _ [] (plainElem_bool Tryd.underlying4 true) ?_)
              intro w2 hown hg
              have O2 : Hid (OwnS w2 (M + 1) (.slice na (namesTo rs low k).length nc) (namesTo rs low k)) := (HO.out.alloc _).grown hg
              have B2 : Hid (Below M w1 w2) := (HB.out.alloc (by omega) _).grown hg (by rw [nblk_alloc]; omega) (fun j hj => by cases hj; exact Nat.le_refl _)
              have M2 : Hid (MapB w2 M (k + 1) (D.put (keyS (nameOf r)) (.lit (.bool true)))) := by rw [HNM.out]; exact hown
              have hM2 : M < w2.heap.size := World.ownsMap.lt hown
              clear hown hg hlk HM HO HB
              go_wp2_with (at_builtin; refine wp_app1 rfl (.tmp 51) (.tmp 53) rfl (M + 1) _ (namesTo rs low k) rfl (O2.out.alloc _) (r.s ++ ⟨#[46]⟩ ++ r.k) w2.heap.size rfl (by simp) (by omega) (by rw [nblk_alloc]; omega) ?_)
              intro a' c' w4 o4 b4
              have HN : Hid (Nm w1 w4 M rs low (k + 1) (.slice a' ((namesTo rs low k).length + 1) c')) := HST.out w2 _ w4 _ M2.out B2.out hM2 (by simpa [HNM.out] using o4) b4
              clear o4 b4 M2 O2 B2 HST
              go_wp2
              go_roundw
              case rel => exact ⟨k + 1, a', c', by omega, by go_num, by rw [HL], by rw [HL]; exact HN⟩
              case measure => simp [intOf]; omega
            · have hue : (recAt rs k).u.toList.isEmpty = false := nonempty_of hu
              have hn0 : nameOf (recAt rs k) = (recAt rs k).s ++ ⟨#[46]⟩ ++ (recAt rs k).u ++ ⟨#[46]⟩ ++ (recAt rs k).k := if_neg hu
              rw [hn0] at hlk hkey
              have HNM : Hid _ := hn0
              clear hu hn0 hnm
              generalize recAt rs k = r at *
              go_wp2_with (at_mapUpdate; refine wpList_mapUpdate_own _ rfl _ _ _ 40 rfl 9 4 law Tryd.underlying40 _ M k _ rfl (HM.out.alloc _) (by unfold maxLen; omega) _ _ _ rfl rfl hkey _ [] (plainElem_bool Tryd.underlying4 true) ?_)
              intro w2 hown hg
              have O2 : Hid (OwnS w2 (M + 1) (.slice na (namesTo rs low k).length nc) (namesTo rs low k)) := (HO.out.alloc _).grown hg
              have B2 : Hid (Below M w1 w2) := (HB.out.alloc (by omega) _).grown hg (by rw [nblk_alloc]; omega) (fun j hj => by cases hj; exact Nat.le_refl _)
              have M2 : Hid (MapB w2 M (k + 1) (D.put (keyS (nameOf r)) (.lit (.bool true)))) := by rw [HNM.out]; exact hown
              have hM2 : M < w2.heap.size := World.ownsMap.lt hown
              clear hown hg hlk HM HO HB
              go_wp2_with (at_builtin; refine wp_app1 rfl (.tmp 51) (.tmp 53) rfl (M + 1) _ (namesTo rs low k) rfl (O2.out.alloc _) (r.s ++ ⟨#[46]⟩ ++ r.u ++ ⟨#[46]⟩ ++ r.k) w2.heap.size rfl (by simp) (by omega) (by rw [nblk_alloc]; omega) ?_)
              intro a' c' w4 o4 b4
              have HN : Hid (Nm w1 w4 M rs low (k + 1) (.slice a' ((namesTo rs low k).length + 1) c')) := HST.out w2 _ w4 _ M2.out B2.out hM2 (by simpa [HNM.out] using o4) b4
              clear o4 b4 M2 O2 B2 HST
              go_wp2
              go_roundw
              case rel => exact ⟨k + 1, a', c', by omega, by go_num, by rw [HL], by rw [HL]; exact HN⟩
              case measure => simp [intOf]; omega
        · have hse : ((recAt rs k).s.toList == low.toList) = false := by rw [hstr, decide_eq_false hin]
          have HN : Hid (∀ o : Obj, Nm w1 (wr.alloc o) M rs low (k + 1) (.slice na (namesTo rs low (k + 1)).length nc)) := fun o => by
            have := HK.out.stay o (seen_out hin) (names_out hin)
            rwa [← names_out hin] at this
          have HL : (namesTo rs low (k + 1)).length = (namesTo rs low k).length := by rw [names_out hin]
          clear hc HK m1 m2 hrow hbel hstr hin hkey hlk hnm
          generalize recAt rs k = r at *
          go_wp2
          exact ⟨⟨k + 1, na, _, by omega, by go_num, by rw [HL], HN.out _⟩, by simp [intOf]; omega⟩
    · have hkk : k = n := by omega
      subst hkk
      have HO : Hid (OwnS wr w.heap.size (.slice na (namesTo rs low k).length nc) (namesTo rs low k)) := own_base HK.out.row (by omega)
      have HB : Hid (Below w.heap.size w wr) := HB1.out.trans (HK.out.below.mono hsz)
      clear HK
      go_wp2
      go_ret
      exact ⟨_, rfl, HO.out, HB.out⟩
end Go.Proofs.Qxb6604153aDoor
