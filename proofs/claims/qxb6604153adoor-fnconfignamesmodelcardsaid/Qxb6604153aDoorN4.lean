/-
  A config's row of variables: ZZNewConfig, ZZConfigAppend, zzAddVars.
-/
import Derived.Test.Qxb6604153aDoorN3
namespace Go.Proofs.Qxb6604153aDoor
open Go.RowKit Go.Deep
set_option linter.unusedVariables false

def Rec.cells (r : Rec) : List Value := [.string r.s, .string r.u, .string r.k, .string r.v, .bool r.i]
def flat (xs : List Rec) : List Value := xs.flatMap Rec.cells
theorem flat_append (xs ys : List Rec) : flat (xs ++ ys) = flat xs ++ flat ys := by simp [flat]
theorem flat_one (r : Rec) : flat [r] = r.cells := by simp [flat]

theorem Tryd.info42 : (Tryd.prog.info? 42).map (fun i => (i.zero, i.size, i.bytes)) = some (some zeroRec, 5, 72) := by kernel_rfl

/-- the config in block C holds the variables xs -/
def Cfg (w : World) (C : Nat) (xs : List Rec) : Prop := ∃ v, w.heap[C]? = some (.cells #[v] 38 (0, 0)) ∧ w.ownsRow (C + 1) 42 5 v xs.length (flat xs)

def AnsCfg (C : Nat) (xs : List Rec) (w : World) : Ending → World → Prop := fun e w' => e = .returned undef ∧ Cfg w' C xs ∧ Below C w w'

def AnsNew (w : World) : Ending → World → Prop := fun e w' => e = .returned (.pointer (some ⟨w.heap.size, 0, none⟩)) ∧ Cfg w' w.heap.size [] ∧ Below w.heap.size w w' ∧ w.heap.size < w'.heap.size

theorem newConfig_any (w : World) : Calls Tryd.prog 7 #[] w (AnsNew w) := by
  go_enter Tryd.func7, Tryd.ntmps7
  go_wp2
  go_ret
  refine ⟨rfl, ⟨.slice none 0 0, ?_, World.ownsRow_nil _ _ _ _⟩, (Below.refl _ _).alloc (Nat.le_refl _) _, ?_⟩
  · exact blk_alloc_new _ _
  · rw [nblk_alloc]; omega

theorem cfg_set {w w1 : World} {C : Nat} {xs : List Rec} {v v' : Value} (hC : w.heap[C]? = some (.cells #[v] 38 (0, 0))) (hb : w1.heap[C]? = w.heap[C]?) (ho : w1.ownsRow (C + 1) 42 5 v' xs.length (flat xs)) : Cfg (w1.setCell ⟨C, 0, none⟩ v') C xs := by
  refine ⟨v', ?_, ?_⟩
  · have := hb.trans hC
    simp [World.setCell, Array.getElem?_modify, this]
  · obtain ⟨h1, h2⟩ := ho
    refine ⟨h1, ?_⟩
    rcases h2 with h2 | ⟨g, cap, cur, e, hg, hc, rest⟩
    · exact Or.inl h2
    · exact Or.inr ⟨g, cap, cur, e, hg, (Below.heap_setCell _ _ _ _ (by show g ≠ C; omega)).trans hc, rest⟩

theorem own_block {w : World} {B e size n : Nat} {v : Value} {l : List Value} (h : w.ownsRow B e size v n l) : ∀ k, v.ownBlock = some k → B ≤ k := fun k hk => (World.ownsRow.lt h k hk).1

theorem own_slice {w : World} {B e size n : Nat} {v : Value} {l : List Value} (h : w.ownsRow B e size v n l) : ∃ a c, v = .slice a n c := by
  rcases h.2 with ⟨rfl, rfl⟩ | ⟨g, cap, cur, rfl, _⟩
  · exact ⟨_, _, rfl⟩
  · exact ⟨_, _, rfl⟩

theorem wp_app5 {w : World} {ops : Array Oper} {rest : List Oper} {o : Oper} {a : Act} {Q : Exit → Act → World → Prop} (hgd : o.guard = none) (sl x : Operand)
    (ho : o.op = .call { callee := .builtin .append, args := #[sl, x], argTypes := #[36, 36] }) (B : Nat) (v : Value) (xs : List Rec) (hs : a.eval sl = v) (hown : w.ownsRow B 42 5 v xs.length (flat xs)) (r : Rec) (ad : Nat) (hx : a.eval x = .slice (some ⟨ad, 0, none⟩) 1 1)
    (hc : RecAt w ad 0 r) (hlen : xs.length ≤ 4096) (hB : B ≤ w.heap.size)
    (h : ∀ a' c' w', w'.ownsRow B 42 5 (.slice a' (xs ++ [r]).length c') (xs ++ [r]).length (flat (xs ++ [r])) → Below B w w' → wpList Tryd.prog ops Q rest (a.put o.dst (.slice a' (xs ++ [r]).length c')) w') : wpList Tryd.prog ops Q (o :: rest) a w := by
  obtain ⟨i, hi, hzz⟩ := Option.map_eq_some_iff.1 Tryd.info42
  simp only [Prod.mk.injEq] at hzz
  obtain ⟨hz, hsz, hb⟩ := hzz
  refine wpList_append_own w hgd sl x 36 ho B 42 i zeroRec 5 72 Tryd.underlying36 hi hz hsz hb rfl (by decide) v xs.length (flat xs) hs hown ⟨ad, 0, none⟩ 1 1 r.cells hx rfl ?_ ?_ (by unfold maxLen; omega) (by omega) hB ?_
  · intro j u hj
    obtain ⟨c0, c1, c2, c3, c4⟩ := hc
    match j, hj with
    | 0, hj => simp [Rec.cells] at hj; subst hj; simpa [Addr.add] using c0
    | 1, hj => simp [Rec.cells] at hj; subst hj; simpa [Addr.add] using c1
    | 2, hj => simp [Rec.cells] at hj; subst hj; simpa [Addr.add] using c2
    | 3, hj => simp [Rec.cells] at hj; subst hj; simpa [Addr.add] using c3
    | 4, hj => simp [Rec.cells] at hj; subst hj; simpa [Addr.add] using c4
    | n + 5, hj => simp [Rec.cells] at hj
  · intro u hu
    simp [Rec.cells] at hu
    rcases hu with rfl | rfl | rfl | rfl | rfl <;> rfl
  · intro v' w' ho' hg _
    have e : (xs ++ [r]).length = xs.length + 1 := by simp
    rw [← flat_one, ← flat_append, ← e] at ho'
    obtain ⟨a', c', rfl⟩ := own_slice ho'
    exact h a' c' w' ho' ((Below.refl _ _).grown hg hB (own_block hown))

set_option maxRecDepth 100000 in
set_option maxHeartbeats 1000000 in
theorem append_any (C : Nat) (xs : List Rec) (r : Rec) (w : World) (h : Cfg w C xs) (hx : xs.length ≤ 4096) :
    Calls Tryd.prog 12 #[.pointer (some ⟨C, 0, none⟩), .string r.s, .string r.u, .string r.k, .string r.v, .bool r.i] w (AnsCfg C (xs ++ [r]) w) := by
  obtain ⟨v, hC, ho⟩ := h
  obtain ⟨va, vc, rfl⟩ := own_slice ho
  have hc : w.cell? ⟨C, 0, none⟩ = some (.slice va xs.length vc) := by simp [World.cell?, hC]
  have hz : w.frozen? ⟨C, 0, none⟩ = false := by simp [World.frozen?, hC]
  have hCl : C < w.heap.size := (Array.getElem?_eq_some_iff.1 hC).1
  have HO : Hid (w.ownsRow (C + 1) 42 5 (.slice va xs.length vc) xs.length (flat xs)) := ho
  have HC : Hid (w.heap[C]? = some (Obj.cells #[Value.slice va xs.length vc] 38)) := hC
  clear ho hC
  go_enter Tryd.func12, Tryd.ntmps12
  go_wp2_with (at_builtin; (refine wp_app5 rfl (.tmp 16) (.tmp 23) rfl (C + 1) _ xs rfl (HO.out.alloc _) r w.heap.size rfl ⟨by simp, by simp, by simp, by simp, by simp⟩ hx (by rw [nblk_alloc]; omega) ?_))
  intro a' c' w1 ho' hb
  have hbC : w1.heap[C]? = w.heap[C]? := (hb.block C (by omega)).trans (blk_alloc_lt _ _ _ hCl)
  have hc1 : w1.cell? ⟨C, 0, none⟩ = some (.slice va xs.length vc) := (World.cell?_of_block (by exact hbC)).trans hc
  have hz1 : w1.frozen? ⟨C, 0, none⟩ = false := (World.frozen?_of_block (by exact hbC)).trans hz
  have HF : Hid (Cfg (w1.setCell ⟨C, 0, none⟩ (.slice a' (xs.length + 1) c')) C (xs ++ [r])) := cfg_set HC.out hbC (by simpa using ho')
  have hbb : Below C w w1 := (((Below.refl (C + 1) w).alloc (by omega) _).trans hb).mono (by omega)
  have HB : Hid (Below C w (w1.setCell ⟨C, 0, none⟩ (.slice a' (xs.length + 1) c'))) := hbb.setCell (p := ⟨C, 0, none⟩) (Nat.le_refl _) _
  clear ho' hb hbb hbC hc hz HC HO
  go_wp2
  go_end0
  exact ⟨rfl, HF.out, HB.out⟩

theorem RecAt.below {w w' : World} {b o B : Nat} {r : Rec} (h : RecAt w b o r) (hlt : b < B) (hb : Below B w w') : RecAt w' b o r := by
  obtain ⟨c0, c1, c2, c3, c4⟩ := h
  exact ⟨(hb.cell (by exact hlt)).trans c0, (hb.cell (by exact hlt)).trans c1, (hb.cell (by exact hlt)).trans c2, (hb.cell (by exact hlt)).trans c3, (hb.cell (by exact hlt)).trans c4⟩

theorem RecsAt.below {w w' : World} {v : Value} {rs : List Rec} (h : RecsAt w v rs) (hb : Below w.heap.size w w') : RecsAt w' v rs := by
  obtain ⟨a, cap, rfl, h⟩ := h
  refine ⟨a, cap, rfl, ?_⟩
  rcases h with h | ⟨b, off, rfl, hlt, hc⟩
  · exact Or.inl h
  · exact Or.inr ⟨b, off, rfl, Nat.lt_of_lt_of_le hlt hb.size, fun j hj => (hc j hj).below hlt hb⟩

theorem Cfg.alloc {w : World} {C : Nat} {xs : List Rec} (h : Cfg w C xs) (o : Obj) : Cfg (w.alloc o) C xs := by
  obtain ⟨v, hC, ho⟩ := h
  exact ⟨v, (blk_alloc_lt _ _ _ (Array.getElem?_eq_some_iff.1 hC).1).trans hC, ho.alloc o⟩

theorem take_succ' (rs : List Rec) (k : Nat) (hk : k < rs.length) : rs.take (k + 1) = rs.take k ++ [recAt rs k] := by
  rw [List.take_add_one, List.getElem?_eq_getElem hk]
  simp [recAt, List.getD_eq_getElem?_getD, hk]

set_option maxRecDepth 100000 in
set_option maxHeartbeats 1000000 in
theorem addVars_any (C : Nat) (v : Value) (rs : List Rec) (w0 w : World) (h : RecsAt w0 v rs) (h0 : w0.heap.size ≤ C) (hb0 : Below w0.heap.size w0 w) (hC : Cfg w C []) (bl : rs.length ≤ 4096) :
    Calls Tryd.prog 8 #[.pointer (some ⟨C, 0, none⟩), v] w (AnsCfg C rs w) := by
  obtain ⟨a, cap, rfl, h⟩ := h
  have H : Hid _ := h
  have HB0 : Hid _ := hb0
  have HC : Hid (Cfg w C (rs.take 0)) := by
    rw [List.take_zero]
    exact hC
  clear h hb0 hC
  generalize hn : rs.length = n at *
  have HN : Hid (rs.length = n) := hn
  clear hn
  go_enter Tryd.func8, Tryd.ntmps8
  go_wp2
  go_loopw [4, 5] (fun i _ wr => ∃ k : Nat, k ≤ n ∧ i = .int .i64 k ∧ Hid (Cfg wr C (rs.take k)) ∧ Hid (Below C w wr)) (fun i _ _ => n - (intOf i).toNat)
  case atStart => exact ⟨0, Nat.zero_le _, rfl, HC, Below.refl _ _⟩
  case round =>
    obtain ⟨k, hk, rfl, hr, hb⟩ := hrel
    clear HC
    by_cases hkl : k < n
    · rcases H.out with e | ⟨b, off, e, hlt, hc⟩
      · omega
      · cases e
        obtain ⟨c0, c1, c2, c3, c4⟩ := ((hc k hkl).below hlt HB0.out).below (B := C) (by omega) hb.out
        clear hc
        have HT : Hid (rs.take (k + 1) = rs.take k ++ [recAt rs k]) := take_succ' rs k (by rw [HN.out]; exact hkl)
        have hl : (rs.take k).length ≤ 4096 := by rw [List.length_take]; omega
        generalize recAt rs k = r at *
        go_wp2_with fail
        refine Calls.mono (append_any C (rs.take k) r _ (hr.out.alloc _) hl) ?_
        rintro e w1 ⟨rfl, hc1, hb1⟩
        have R1 : Hid (Cfg w1 C (rs.take (k + 1))) := by rw [HT.out]; exact hc1
        obtain ⟨_, hCC, _⟩ := hr.out
        have hCl : C < wr.heap.size := (Array.getElem?_eq_some_iff.1 hCC).1
        have R2 : Hid (Below C w w1) := (hb.out.alloc (by omega) _).trans hb1
        clear hc1 hb1 hCC
        go_wp2_with fail
        go_roundw
        case rel => exact ⟨k + 1, by omega, by go_num, R1, R2⟩
        case measure => simp [intOf]; omega
    · have hkk : k = n := by omega
      subst hkk
      have HD : Hid (Cfg wr C rs) := by
        have := hr.out
        rwa [← HN.out, List.take_length] at this
      clear hr
      go_wp2
      go_end0
      exact ⟨rfl, HD.out, hb.out⟩
end Go.Proofs.Qxb6604153aDoor
