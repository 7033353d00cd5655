/-
  zzCloneVars.
-/
import Derived.Test.Qxb6604153aDoorN2
namespace Go.Proofs.Qxb6604153aDoor
open Go.RowKit Go.Deep
set_option linter.unusedVariables false

def zeroRec : Value := .agg #[.string ⟨#[]⟩, .string ⟨#[]⟩, .string ⟨#[]⟩, .string ⟨#[]⟩, .bool false]
theorem Tryd.info34 : (Tryd.prog.info? 34).map (fun i => (i.zero, i.size, i.bytes)) = some (some zeroRec, 5, 72) := by kernel_rfl

/-- five cells of a row -/
structure RecFn (f : Nat → Value) (o : Nat) (r : Rec) : Prop where
  c0 : f o = .string r.s
  c1 : f (o + 1) = .string r.u
  c2 : f (o + 2) = .string r.k
  c3 : f (o + 3) = .string r.v
  c4 : f (o + 4) = .bool r.i

/-- the clone behind k rounds -/
structure Cl (w wr : World) (B n k : Nat) (rs : List Rec) : Prop where
  row : ∃ f, wr.rowIs B 34 (n * 5) f ∧ ∀ j, j < k → RecFn f (j * 5) (recAt rs j)
  below : Below w.heap.size w wr

def AnsRecs (rs : List Rec) (w : World) : Ending → World → Prop := fun e w' => ∃ v, e = .returned v ∧ RecsAt w' v rs ∧ Below w.heap.size w w'

/-- what make lays -/
def made5 (n : Nat) : Array Value := madeCells zeroRec.cells (n * 5)

theorem run_make34 (n : Nat) (hn : n ≤ 4096) (w : World) : (Instr.makeSlice 22 (.int .i64 (n : Int)) (.int .i64 (n : Int))).run Tryd.prog w = .ok (.slice (some ⟨w.heap.size, 0, none⟩) n n) (w.alloc (.cells (made5 n) 34)) := by
  obtain ⟨i, hi, hzz⟩ := Option.map_eq_some_iff.1 Tryd.info34
  simp only [Prod.mk.injEq] at hzz
  obtain ⟨hz, hs, hb⟩ := hzz
  have hr := run_make (P := Tryd.prog) w 22 34 i _ Tryd.underlying22 hi hz .i64 .i64 n n (by omega) (Int.le_refl _) (by rw [hb]; omega) (by omega)
  simp only [Int.toNat_natCast, hs] at hr
  exact hr

theorem cl_start (w : World) (n : Nat) (rs : List Rec) : Cl w (w.alloc (.cells (made5 n) 34)) w.heap.size n 0 rs := by
  refine ⟨⟨fun i => (made5 n).getD i (.bool false), ?_, fun j hj => absurd hj (Nat.not_lt_zero _)⟩, (Below.refl _ _).alloc (Nat.le_refl _) _⟩
  have := World.rowIs_alloc w (made5 n) 34 (fun i => (made5 n).getD i (.bool false)) (fun i hi => by simp [Array.getD, hi])
  rwa [show (made5 n).size = n * 5 from size_madeCells _ _] at this

theorem RecFn.keep {f : Nat → Value} {j k : Nat} {r x : Rec} (h : RecFn f (j * 5) r) (hjk : j ≠ k) :
    RecFn (fun i => if i = k * 5 + 4 then .bool x.i else if i = k * 5 + 3 then .string x.v else if i = k * 5 + 2 then .string x.k else if i = k * 5 + 1 then .string x.u else if i = k * 5 then .string x.s else f i) (j * 5) r := by
  obtain ⟨c0, c1, c2, c3, c4⟩ := h
  constructor
  · show (if _ then _ else _) = _
    rw [if_neg (by omega), if_neg (by omega), if_neg (by omega), if_neg (by omega), if_neg (by omega)]; exact c0
  · show (if _ then _ else _) = _
    rw [if_neg (by omega), if_neg (by omega), if_neg (by omega), if_neg (by omega), if_neg (by omega)]; exact c1
  · show (if _ then _ else _) = _
    rw [if_neg (by omega), if_neg (by omega), if_neg (by omega), if_neg (by omega), if_neg (by omega)]; exact c2
  · show (if _ then _ else _) = _
    rw [if_neg (by omega), if_neg (by omega), if_neg (by omega), if_neg (by omega), if_neg (by omega)]; exact c3
  · show (if _ then _ else _) = _
    rw [if_neg (by omega), if_neg (by omega), if_neg (by omega), if_neg (by omega), if_neg (by omega)]; exact c4

theorem RecFn.put (f : Nat → Value) (k : Nat) (x : Rec) :
    RecFn (fun i => if i = k * 5 + 4 then .bool x.i else if i = k * 5 + 3 then .string x.v else if i = k * 5 + 2 then .string x.k else if i = k * 5 + 1 then .string x.u else if i = k * 5 then .string x.s else f i) (k * 5) x := by
  constructor
  · show (if _ then _ else _) = _
    rw [if_neg (by omega), if_neg (by omega), if_neg (by omega), if_neg (by omega), if_pos (by omega)]
  · show (if _ then _ else _) = _
    rw [if_neg (by omega), if_neg (by omega), if_neg (by omega), if_pos (by omega)]
  · show (if _ then _ else _) = _
    rw [if_neg (by omega), if_neg (by omega), if_pos (by omega)]
  · show (if _ then _ else _) = _
    rw [if_neg (by omega), if_pos (by omega)]
  · show (if _ then _ else _) = _
    rw [if_pos (by omega)]

theorem Cl.step {w wr : World} {n k : Nat} {rs : List Rec} (h : Cl w wr w.heap.size n k rs) :
    Cl w (((((wr.setCell ⟨w.heap.size, k * 5, none⟩ (.string (recAt rs k).s)).setCell ⟨w.heap.size, k * 5 + 1, none⟩ (.string (recAt rs k).u)).setCell ⟨w.heap.size, k * 5 + 2, none⟩ (.string (recAt rs k).k)).setCell ⟨w.heap.size, k * 5 + 3, none⟩ (.string (recAt rs k).v)).setCell ⟨w.heap.size, k * 5 + 4, none⟩ (.bool (recAt rs k).i)) w.heap.size n (k + 1) rs := by
  obtain ⟨⟨f, hf, hff⟩, hb⟩ := h
  refine ⟨⟨_, ((((hf.set (k * 5) (.string (recAt rs k).s)).set (k * 5 + 1) (.string (recAt rs k).u)).set (k * 5 + 2) (.string (recAt rs k).k)).set (k * 5 + 3) (.string (recAt rs k).v)).set (k * 5 + 4) (.bool (recAt rs k).i), fun j hj => ?_⟩, ?_⟩
  · by_cases hjk : j = k
    · subst hjk
      exact RecFn.put f j (recAt rs j)
    · exact (hff j (by omega)).keep hjk
  · exact ((((hb.setCell (Nat.le_refl _) _).setCell (Nat.le_refl _) _).setCell (Nat.le_refl _) _).setCell (Nat.le_refl _) _).setCell (Nat.le_refl _) _

theorem Cl.done {w wr : World} {n : Nat} {rs : List Rec} (h : Cl w wr w.heap.size n n rs) (hn : rs.length = n) : RecsAt wr (.slice (some ⟨w.heap.size, 0, none⟩) n n) rs := by
  obtain ⟨⟨f, hf, hff⟩, hb⟩ := h
  refine ⟨_, _, by rw [hn], Or.inr ⟨w.heap.size, 0, rfl, hf.lt, fun j hj => ?_⟩⟩
  obtain ⟨c0, c1, c2, c3, c4⟩ := hff j (by omega)
  rw [Nat.zero_add]
  constructor
  · rw [← c0]; exact hf.cell (by omega)
  · rw [← c1]; exact hf.cell (by omega)
  · rw [← c2]; exact hf.cell (by omega)
  · rw [← c3]; exact hf.cell (by omega)
  · rw [← c4]; exact hf.cell (by omega)

set_option maxRecDepth 100000 in
set_option maxHeartbeats 2000000 in
theorem clone_any (v : Value) (rs : List Rec) (w : World) (h : RecsAt w v rs) (bl : rs.length ≤ 4096) : Calls Tryd.prog 6 #[v] w (AnsRecs rs w) := by
  obtain ⟨a, cap, rfl, h⟩ := h
  have H : Hid _ := h
  clear h
  generalize hn : rs.length = n at *
  have HN : Hid (rs.length = n) := hn
  clear hn
  have hmk := run_make34 n bl
  cases a with
  | none =>
    have h0 : n = 0 := by
      rcases H.out with e | ⟨b, off, e, _⟩
      · exact e
      · cases e
    subst h0
    have he : ∀ w : World, (binOp .eql 22 (.slice none 0 cap) (.slice none 0 0)).run Tryd.prog w = .ok (.bool true) w := fun w => Lib.run_eql_slice_nil w _ _ _ _ _ _ _ Tryd.underlying22
    go_enter Tryd.func6, Tryd.ntmps6
    go_wp2
    go_ret
    exact ⟨.slice none 0 0, rfl, ⟨none, 0, by rw [HN.out], Or.inl HN.out⟩, Below.refl _ _⟩
  | some a =>
    have he : ∀ w : World, (binOp .eql 22 (.slice (some a) n cap) (.slice none 0 0)).run Tryd.prog w = .ok (.bool false) w := fun w => Lib.run_eql_slice_nil w _ _ _ _ _ _ _ Tryd.underlying22
    have HI : Hid (Cl w (w.alloc (.cells (made5 n) 34)) w.heap.size n 0 rs) := cl_start w n rs
    go_enter Tryd.func6, Tryd.ntmps6
    go_wp2
    go_loopw [4] (fun i wr => ∃ k : Nat, k ≤ n ∧ i = .int .i64 k ∧ Hid (Cl w wr w.heap.size n k rs)) (fun i _ => n - (intOf i).toNat)
    case atStart => exact ⟨0, Nat.zero_le _, rfl, HI⟩
    case round =>
      obtain ⟨k, hk, rfl, hr⟩ := hrel
      clear HI
      by_cases hkl : k < n
      · rcases H.out with e | ⟨b, off, e, hlt, hc⟩
        · omega
        · cases e
          obtain ⟨c0, c1, c2, c3, c4⟩ := hc k hkl
          obtain ⟨⟨f, hf, hff⟩, hb⟩ := hr.out
          have d0 := (hb.cell (p := ⟨b, off + k * 5, none⟩) (by exact hlt)).trans c0
          have d1 := (hb.cell (p := ⟨b, off + k * 5 + 1, none⟩) (by exact hlt)).trans c1
          have d2 := (hb.cell (p := ⟨b, off + k * 5 + 2, none⟩) (by exact hlt)).trans c2
          have d3 := (hb.cell (p := ⟨b, off + k * 5 + 3, none⟩) (by exact hlt)).trans c3
          have d4 := (hb.cell (p := ⟨b, off + k * 5 + 4, none⟩) (by exact hlt)).trans c4
          have g0 := hf.cell (i := k * 5) (by omega)
          have g1 := hf.cell (i := k * 5 + 1) (by omega)
          have g2 := hf.cell (i := k * 5 + 2) (by omega)
          have g3 := hf.cell (i := k * 5 + 3) (by omega)
          have g4 := hf.cell (i := k * 5 + 4) (by omega)
          have z0 := hf.frozen (k * 5)
          have z1 := hf.frozen (k * 5 + 1)
          have z2 := hf.frozen (k * 5 + 2)
          have z3 := hf.frozen (k * 5 + 3)
          have z4 := hf.frozen (k * 5 + 4)
          have HN2 : Hid _ := hr.out.step
          clear hc c0 c1 c2 c3 c4 hf hff hb hr hmk he
          go_wp2
          exact ⟨⟨k + 1, by omega, by go_num, HN2⟩, by simp [intOf]; omega⟩
      · have hkk : k = n := by omega
        subst hkk
        have HD : Hid _ := hr.out.done HN.out
        have HB : Hid _ := hr.out.below
        go_wp2
        go_ret
        exact ⟨_, rfl, HD.out, HB.out⟩
end Go.Proofs.Qxb6604153aDoor
