/-
  zzCloneEntries: nil stays nil, else a new row with the same cells.
-/
import Derived.Test.Qxb6603280aDoorW1
import Derived.Test.Qxb6603280aDoorCopy
namespace Go.Proofs.Qxb6603280aDoor
open Go.RowKit

theorem Tryd.info29 : (Tryd.prog.info? 29).map (fun i => (i.zero, i.size, i.bytes)) = some (some (.agg #[.string ⟨#[]⟩, .string ⟨#[]⟩, .string ⟨#[]⟩]), 3, 48) := by kernel_rfl
theorem Tryd.size29 : (Tryd.prog.info? 29).map (·.size) = some 3 := by kernel_rfl

/-- the cell of number j among the records' cells -/
def rcell (h b e : Nat → ByteArray) (j : Nat) : Value := if j % 3 = 0 then .string (h (j / 3)) else if j % 3 = 1 then .string (b (j / 3)) else .string (e (j / 3))
def rcells (h b e : Nat → ByteArray) (len : Nat) : List Value := (List.range (len * 3)).map (rcell h b e)

theorem rcells_length (h b e : Nat → ByteArray) (len : Nat) : (rcells h b e len).length = len * 3 := by simp [rcells]
theorem rcells_get (h b e : Nat → ByteArray) (len j : Nat) (hj : j < len * 3) : (rcells h b e len)[j]? = some (rcell h b e j) := by simp [rcells, hj]
theorem rcells_one (h b e : Nat → ByteArray) (len : Nat) : ∀ v ∈ rcells h b e len, v.oneCell' = true := by
  intro v hv
  simp only [rcells, List.mem_map] at hv
  obtain ⟨j, _, rfl⟩ := hv
  unfold rcell
  split
  · rfl
  · split <;> rfl

theorem add_off (bl off j : Nat) : (⟨bl, off, none⟩ : Addr).add j = ⟨bl, off + j, none⟩ := by unfold Addr.add; split <;> simp_all

/-- the source's cells, one by one -/
theorem recs_src {w : World} {bl off len : Nat} {h b e : Nat → ByteArray}
    (hc : ∀ i, i < len → w.cell? ⟨bl, off + i * 3, none⟩ = some (.string (h i)) ∧ w.cell? ⟨bl, off + i * 3 + 1, none⟩ = some (.string (b i)) ∧ w.cell? ⟨bl, off + i * 3 + 2, none⟩ = some (.string (e i))) :
    ∀ j v, (rcells h b e len)[j]? = some v → w.cell? ((⟨bl, off, none⟩ : Addr).add j) = some v := by
  intro j v hv
  have hj : j < len * 3 := by
    have := (List.getElem?_eq_some_iff.1 hv).1
    rwa [rcells_length] at this
  rw [rcells_get h b e len j hj] at hv
  obtain rfl := Option.some.inj hv
  rw [add_off]
  obtain ⟨c0, c1, c2⟩ := hc (j / 3) (by omega)
  unfold rcell
  rcases (show j % 3 = 0 ∨ j % 3 = 1 ∨ j % 3 = 2 by omega) with hm | hm | hm
  · rw [if_pos hm, ← c0]; congr 2; omega
  · rw [if_neg (by omega), if_pos hm, ← c1]; congr 2; omega
  · rw [if_neg (by omega), if_neg (by omega), ← c2]; congr 2; omega

/-- a row that holds the records' cells leads to the records -/
theorem recs_of_row {w w' : World} {ao : Option Addr} {g len : Nat} {t : TypeId} {h b e : Nat → ByteArray} (R : Recs w ao len h b e) (hg : w'.heap[g]? = some (.cells (rcells h b e len).toArray t (0, 0))) :
    Recs w' (some ⟨g, 0, none⟩) len h b e where
  at_ := fun _ => by
    have hlt : g < w'.heap.size := (Array.getElem?_eq_some_iff.1 hg).1
    refine ⟨g, 0, rfl, hlt, fun i hi => ?_⟩
    have key : ∀ j, j < len * 3 → w'.cell? ⟨g, j, none⟩ = some (rcell h b e j) := fun j hj => by
      have := rcells_get h b e len j hj
      simp [World.cell?, hg, this]
    refine ⟨?_, ?_, ?_⟩
    · rw [key _ (by omega)]; unfold rcell; rw [if_pos (by omega)]; congr 3; omega
    · rw [key _ (by omega)]; unfold rcell; rw [if_neg (by omega), if_pos (by omega)]; congr 3; omega
    · rw [key _ (by omega)]; unfold rcell; rw [if_neg (by omega), if_neg (by omega)]; congr 3; omega
  hs := R.hs
  bs := R.bs
  es := R.es

/-- the records still lie there in a world that has not turned below -/
theorem Recs.below {w w' : World} {ao : Option Addr} {len B : Nat} {h b e : Nat → ByteArray} (R : Recs w ao len h b e) (hb : Below B w w') (hB : w.heap.size ≤ B) : Recs w' ao len h b e where
  at_ := fun hp => by
    obtain ⟨bl, off, rfl, hlt, hc⟩ := R.at_ hp
    refine ⟨bl, off, rfl, Nat.lt_of_lt_of_le hlt hb.size, fun i hi => ?_⟩
    obtain ⟨c0, c1, c2⟩ := hc i hi
    exact ⟨(hb.cell (p := ⟨bl, off + i * 3, none⟩) (Nat.lt_of_lt_of_le hlt hB)).trans c0, (hb.cell (p := ⟨bl, off + i * 3 + 1, none⟩) (Nat.lt_of_lt_of_le hlt hB)).trans c1, (hb.cell (p := ⟨bl, off + i * 3 + 2, none⟩) (Nat.lt_of_lt_of_le hlt hB)).trans c2⟩
  hs := R.hs
  bs := R.bs
  es := R.es

/-- what zzCloneEntries leaves -/
def AnsR (len : Nat) (h b e : Nat → ByteArray) (w : World) : Ending → World → Prop := fun e' w' => ∃ ao' cap', e' = .returned (.slice ao' len cap') ∧ Recs w' ao' len h b e ∧ Below w.heap.size w w'

theorem own_cur {w1 : World} {base g n cap size : Nat} {e : TypeId} {xs : List Value} (h : w1.ownsRow base e size (.slice (some ⟨g, 0, none⟩) n cap) n xs) : ∃ cur : Array Value, w1.heap[g]? = some (.cells cur e (0, 0)) ∧ cur.size = cap * size := by
  rcases h.2 with ⟨h0, _⟩ | ⟨g', cap', cur, hv, _, hh, _, _, hs, _⟩
  · cases h0
  · cases hv
    exact ⟨cur, hh, hs⟩

theorem clone_src {w w1 : World} {a : Addr} {len : Nat} {h b e : Nat → ByteArray} (R : Recs w (some a) len h b e) (hb : Below w.heap.size w w1) :
    ∀ j v, (rcells h b e len)[j]? = some v → w1.cell? (a.add j) = some v := by
  rcases Nat.eq_zero_or_pos len with rfl | hp
  · intro j v hv; simp [rcells] at hv
  · obtain ⟨bl, off, hao, hlt, hc⟩ := (R.below hb (Nat.le_refl _)).at_ hp
    cases hao
    exact recs_src hc

theorem clone_copy {w w1 : World} {a : Addr} {len cap : Nat} {h b e : Nat → ByteArray} {xs : List Value} (R : Recs w (some a) len h b e)
    (hown : w1.ownsRow w.heap.size 29 3 (.slice (some ⟨w.heap.size, 0, none⟩) len len) len xs) (hgrow : w.grownBy w1 none) :
    ∃ w2, (Builtin.copy_ #[22, 22] 3 #[.slice (some ⟨w.heap.size, 0, none⟩) len len, .slice (some a) len cap]).run Tryd.prog w1 = .ok (.int .i64 len) w2 ∧ Recs w2 (some ⟨w.heap.size, 0, none⟩) len h b e ∧ Below w.heap.size w w2 := by
  have hb1 : Below w.heap.size w w1 := (Below.refl _ _).grown hgrow (Nat.le_refl _) (fun k hk => by cases hk)
  have mm : Nat.min len len = len := Nat.min_self len
  obtain ⟨cur, hcur, hcs⟩ := own_cur hown
  have hrun := run_copy_row_n (P := Tryd.prog) w1 22 22 3 29 w.heap.size 0 len len a len cap 3 cur 29 (rcells h b e len) Tryd.underlying22 Tryd.size29 hcur (by rw [rcells_length, mm]) (clone_src R hb1) (by rw [rcells_length, hcs]; omega) (rcells_one h b e len)
  have e1 : (cur.toList.take 0 ++ rcells h b e len ++ cur.toList.drop (0 + (rcells h b e len).length)) = rcells h b e len := by
    rw [List.take_zero, List.nil_append, List.drop_eq_nil_of_le (by rw [rcells_length]; simp; omega), List.append_nil]
  rw [e1, mm] at hrun
  exact ⟨_, hrun, recs_of_row R (setRow_heap _ _ _ _ _ _ hcur), below_setRow hb1 (Nat.le_refl _) _⟩

set_option maxHeartbeats 1000000 in
theorem clone_any (ao : Option Addr) (len cap : Nat) (h b e : Nat → ByteArray) (w : World) (hl : len ≤ 65536) (hn : ao = none → len = 0 ∧ cap = 0) (R : Recs w ao len h b e) :
    Calls Tryd.prog 7 #[.slice ao len cap] w (AnsR len h b e w) := by
  have hnil := fun wx => Lib.run_eql_slice_nil (P := Tryd.prog) wx 22 29 ao len cap 0 0 Tryd.underlying22
  obtain ⟨i0, hi, hz0, hz1, hz2⟩ := info_parts Tryd.info29
  cases ao with
  | none =>
    obtain ⟨rfl, rfl⟩ := hn rfl
    go_enter Tryd.func7, Tryd.ntmps7
    go_wp2
    go_ret
    exact ⟨none, 0, rfl, R, Below.refl _ _⟩
  | some a =>
    go_enter Tryd.func7, Tryd.ntmps7
    go_wp2_with (at_make; refine wpList_make_full _ rfl (.tmp 7) (.tmp 7) 22 rfl w.heap.size 29 i0 _ 3 Tryd.underlying22 hi hz0 hz1 _ _ _ _ len rfl rfl rfl rfl (by rw [hz2]; omega) (by unfold maxLen; omega) (Nat.le_refl _) ?_; intro w1 hown1 hgrow1; obtain ⟨w2, hrun, hR2, hb2⟩ := clone_copy (cap := cap) R hown1 hgrow1; clear hown1 hgrow1)
    go_ret
    exact ⟨_, _, rfl, hR2, hb2⟩
end Go.Proofs.Qxb6603280aDoor
