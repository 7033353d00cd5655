/-
  The plain list of names; the books of (*Config).Names.
-/
import Derived.Test.Qxb6604153aDoorN5
import Derived.Maps.OwnSet
namespace Go.Proofs.Qxb6604153aDoor
open Go.RowKit Go.Deep Go.Maps Go.WideMaps
set_option linter.unusedVariables false

/-- does the name p stand among the first k variables of the section -/
def seenB (rs : List Rec) (low : ByteArray) : Nat → ByteArray → Bool
  | 0, _ => false
  | k + 1, p => seenB rs low k p || (decide ((recAt rs k).s = low) && decide (nameOf (recAt rs k) = p))

/-- the names of the first k variables -/
def namesTo (rs : List Rec) (low : ByteArray) : Nat → List ByteArray
  | 0 => []
  | k + 1 => if (recAt rs k).s = low ∧ seenB rs low k (nameOf (recAt rs k)) = false then namesTo rs low k ++ [nameOf (recAt rs k)] else namesTo rs low k

theorem namesTo_le (rs : List Rec) (low : ByteArray) : ∀ k, (namesTo rs low k).length ≤ k
  | 0 => Nat.le_refl _
  | k + 1 => by
    have := namesTo_le rs low k
    unfold namesTo
    split
    · simp; omega
    · omega

theorem names_out {rs : List Rec} {low : ByteArray} {k : Nat} (h : (recAt rs k).s ≠ low) : namesTo rs low (k + 1) = namesTo rs low k := if_neg fun e => h e.1
theorem names_again {rs : List Rec} {low : ByteArray} {k : Nat} (h : seenB rs low k (nameOf (recAt rs k)) = true) : namesTo rs low (k + 1) = namesTo rs low k := if_neg fun e => by rw [h] at e; exact absurd e.2 (by decide)
theorem names_new {rs : List Rec} {low : ByteArray} {k : Nat} (h1 : (recAt rs k).s = low) (h2 : seenB rs low k (nameOf (recAt rs k)) = false) : namesTo rs low (k + 1) = namesTo rs low k ++ [nameOf (recAt rs k)] := if_pos ⟨h1, h2⟩

theorem seen_out {rs : List Rec} {low : ByteArray} {k : Nat} (h : (recAt rs k).s ≠ low) (p : ByteArray) : seenB rs low (k + 1) p = seenB rs low k p := by
  show (_ || _) = _
  rw [decide_eq_false h]; simp
theorem seen_other {rs : List Rec} {low : ByteArray} {k : Nat} {p : ByteArray} (h : nameOf (recAt rs k) ≠ p) : seenB rs low (k + 1) p = seenB rs low k p := by
  show (_ || _) = _
  rw [decide_eq_false h]; simp
theorem seen_here {rs : List Rec} {low : ByteArray} {k : Nat} (h : (recAt rs k).s = low) : seenB rs low (k + 1) (nameOf (recAt rs k)) = true := by
  show (_ || _) = _
  rw [decide_eq_true h]; simp
theorem seen_again {rs : List Rec} {low : ByteArray} {k : Nat} (h : seenB rs low k (nameOf (recAt rs k)) = true) (p : ByteArray) : seenB rs low (k + 1) p = seenB rs low k p := by
  by_cases e : nameOf (recAt rs k) = p
  · subst e
    show (_ || _) = _
    rw [h]; simp
  · exact seen_other e
theorem seen_mono {rs : List Rec} {low : ByteArray} {p : ByteArray} : ∀ {j k : Nat}, j ≤ k → seenB rs low j p = true → seenB rs low k p = true
  | j, 0, h, hs => by
    have : j = 0 := by omega
    subst this
    exact hs
  | j, k + 1, h, hs => by
    by_cases e : j = k + 1
    · subst e; exact hs
    · show (_ || _) = _
      rw [seen_mono (by omega) hs]; simp

/-! the map -/
theorem law : Keyed Tryd.prog 9 := string_keyed Tryd.underlying9
/-- block B is a map[string]bool of at most n entries -/
def MapB (w : World) (B n : Nat) (D : DataW Unit) : Prop := w.ownsMap Tryd.prog 9 (plainElem Tryd.prog 4) B n D
def keyS (s : ByteArray) : Lit := .string s.data.toList
theorem keyS_ok (s : ByteArray) (h : s.size ≤ maxLen) : keyOf Tryd.prog 9 (.string s) = some (keyS s) := keyOf_string_mk Tryd.underlying9 h
theorem keyS_inj {a b : ByteArray} (h : keyS a = keyS b) : a = b := by
  unfold keyS at h
  cases a; cases b
  simp only [Lit.string.injEq] at h
  exact congrArg ByteArray.mk (Array.toList_inj.1 h)
theorem zeroB (w : World) : (zeroValue 4).run Tryd.prog w = .ok (.bool false) w := by kernel_rfl

/-- the map holds true just at the names seen -/
def Seen (D : DataW Unit) (f : ByteArray → Bool) : Prop := ∀ p, D.atKey (keyS p) (.lit (.bool false)) = .lit (.bool (f p))

theorem look_bool {w : World} {B n : Nat} {D : DataW Unit} {f : ByteArray → Bool} (h : MapB w B n D) (hs : Seen D f) (p : ByteArray) (hp : p.size ≤ maxLen) : (Instr.lookup 40 (.map (some B)) (.string p) false).run Tryd.prog w = .ok (.bool (f p)) w := by
  obtain ⟨v, ps, hrun, hv⟩ := World.ownsMap.lookup h law Tryd.underlying40 (zeroB w) (plainElem_bool Tryd.underlying4 false) (keyS_ok p hp)
  rw [hs p] at hv
  rw [hrun]
  unfold plainElem at hv
  rw [Tryd.underlying4] at hv
  cases v <;> simp at hv
  rw [hv.1]

theorem seen_put {w : World} {B n : Nat} {D : DataW Unit} {rs : List Rec} {low : ByteArray} {k : Nat} (h : MapB w B n D) (hs : Seen D (seenB rs low k)) (hk : (recAt rs k).s = low) : Seen (D.put (keyS (nameOf (recAt rs k))) (.lit (.bool true))) (seenB rs low (k + 1)) := by
  intro p
  by_cases e : nameOf (recAt rs k) = p
  · subst e
    rw [seen_here hk]
    exact atKey_put_same (World.ownsMap.isMap h) (show WideAt.IsKeyLit (keyS (nameOf (recAt rs k))) from trivial) _ _
  · rw [seen_other e, atKey_put_other (fun h => e (keyS_inj h).symm)]
    exact hs p

theorem add_plain' (b o i : Nat) : (⟨b, o, none⟩ : Addr).add i = ⟨b, o + i, none⟩ := by
  unfold Addr.add
  split
  · next h => subst h; rfl
  · rfl

/-! the row of names -/
def strsV (l : List ByteArray) : List Value := l.map Value.string
/-- v is a row of the call's own: the strings l; nil where there is none -/
structure OwnS (w : World) (B : Nat) (v : Value) (l : List ByteArray) : Prop where
  own : w.ownsRow B 9 1 v l.length (strsV l)
  nil : l = [] → v = .slice none 0 0

theorem Tryd.info9 : (Tryd.prog.info? 9).map (fun i => (i.zero, i.size, i.bytes)) = some (some (.string ⟨#[]⟩), 1, 16) := by kernel_rfl

theorem ownS_nil (w : World) (B : Nat) : OwnS w B (.slice none 0 0) [] := ⟨World.ownsRow_nil _ _ _ _, fun _ => rfl⟩

theorem OwnS.form {w : World} {B : Nat} {v : Value} {l : List ByteArray} (h : OwnS w B v l) : (l = [] ∧ v = .slice none 0 0) ∨ (l ≠ [] ∧ ∃ g cap, v = .slice (some ⟨g, 0, none⟩) l.length cap ∧ B ≤ g ∧ g < w.heap.size ∧ ∀ j, j < l.length → w.cell? ⟨g, j, none⟩ = some (.string (l.getD j ByteArray.empty))) := by
  by_cases e : l = []
  · exact Or.inl ⟨e, h.nil e⟩
  · refine Or.inr ⟨e, ?_⟩
    have hc := fun g => World.ownsRow.cells (g := g) h.own
    have hl := World.ownsRow.lt h.own
    rcases h.own.2 with ⟨_, h0⟩ | ⟨g, cap, cur, rfl, hb, _⟩
    · exact absurd (List.eq_nil_of_length_eq_zero h0) e
    · refine ⟨g, cap, rfl, hb, (hl g rfl).2, fun j hj => ?_⟩
      have := hc g rfl j (.string (l.getD j ByteArray.empty)) (by simp [strsV, hj])
      rwa [add_plain', Nat.zero_add] at this

theorem OwnS.slice {w : World} {B : Nat} {v : Value} {l : List ByteArray} (h : OwnS w B v l) : ∃ a c, v = .slice a l.length c := own_slice h.own

theorem wp_app1 {w : World} {ops : Array Oper} {rest : List Oper} {o : Oper} {a : Act} {Q : Exit → Act → World → Prop} (hgd : o.guard = none) (sl x : Operand)
    (ho : o.op = .call { callee := .builtin .append, args := #[sl, x], argTypes := #[29, 29] }) (B : Nat) (v : Value) (l : List ByteArray) (hs : a.eval sl = v) (hown : OwnS w B v l) (p : ByteArray) (ad : Nat) (hx : a.eval x = .slice (some ⟨ad, 0, none⟩) 1 1)
    (hc : w.cell? ⟨ad, 0, none⟩ = some (.string p)) (hlen : l.length ≤ 4096) (hB : B ≤ w.heap.size)
    (h : ∀ a' c' w', OwnS w' B (.slice a' (l ++ [p]).length c') (l ++ [p]) → Below B w w' → wpList Tryd.prog ops Q rest (a.put o.dst (.slice a' (l ++ [p]).length c')) w') : wpList Tryd.prog ops Q (o :: rest) a w := by
  obtain ⟨i, hi, hzz⟩ := Option.map_eq_some_iff.1 Tryd.info9
  simp only [Prod.mk.injEq] at hzz
  obtain ⟨hz, hsz, hb⟩ := hzz
  refine wpList_append_own w hgd sl x 29 ho B 9 i (.string ⟨#[]⟩) 1 16 Tryd.underlying29 hi hz hsz hb rfl (by decide) v l.length (strsV l) hs hown.own ⟨ad, 0, none⟩ 1 1 [.string p] hx rfl ?_ ?_ (by unfold maxLen; omega) (by omega) hB ?_
  · intro j u hj
    match j, hj with
    | 0, hj => simp at hj; subst hj; simpa [Addr.add] using hc
  · intro u hu
    simp at hu
    subst hu
    rfl
  · intro v' w' ho' hg _
    have e : (l ++ [p]).length = l.length + 1 := by simp
    have es : strsV (l ++ [p]) = strsV l ++ [.string p] := by simp [strsV]
    rw [← es, ← e] at ho'
    obtain ⟨a', c', rfl⟩ := own_slice ho'
    exact h a' c' w' ⟨ho', fun e => absurd e (by simp)⟩ ((Below.refl _ _).grown hg hB (own_block hown.own))

/-! a config's cells -/
theorem flat_at : ∀ (rs : List Rec) (j i : Nat), j < rs.length → i < 5 → (flat rs)[j * 5 + i]? = (recAt rs j).cells[i]?
  | [], j, i, hj, _ => absurd hj (Nat.not_lt_zero _)
  | r :: rs, 0, i, _, hi => by
    show (r.cells ++ flat rs)[_]? = _
    rw [Nat.zero_mul, Nat.zero_add, List.getElem?_append_left (by show i < 5; exact hi)]
    rfl
  | r :: rs, j + 1, i, hj, hi => by
    show (r.cells ++ flat rs)[_]? = _
    rw [List.getElem?_append_right (by show 5 ≤ _; omega)]
    have e : (j + 1) * 5 + i - r.cells.length = j * 5 + i := by show _ - 5 = _; omega
    rw [e, flat_at rs j i (by simpa using hj) hi]
    rfl

theorem cfg_recs {w : World} {C : Nat} {rs : List Rec} (h : Cfg w C rs) : ∃ a cap, w.cell? ⟨C, 0, none⟩ = some (.slice a rs.length cap) ∧ RecsAt w (.slice a rs.length cap) rs := by
  obtain ⟨v, hC, ho⟩ := h
  have hl := World.ownsRow.lt ho
  have hc := fun g => World.ownsRow.cells (g := g) ho
  rcases ho.2 with ⟨rfl, h0⟩ | ⟨g, cap, cur, rfl, hb, _⟩
  · refine ⟨none, 0, ?_, ⟨none, 0, rfl, Or.inl h0⟩⟩
    rw [h0]
    simp [World.cell?, hC]
  · refine ⟨some ⟨g, 0, none⟩, cap, by simp [World.cell?, hC], ⟨_, _, rfl, Or.inr ⟨g, 0, rfl, (hl g rfl).2, fun j hj => ?_⟩⟩⟩
    have k : ∀ i u, i < 5 → (recAt rs j).cells[i]? = some u → w.cell? ⟨g, 0 + j * 5 + i, none⟩ = some u := fun i u hi hu => by
      have := hc g rfl (j * 5 + i) u (by rw [flat_at rs j i hj hi]; exact hu)
      rw [add_plain', Nat.zero_add] at this
      rwa [Nat.zero_add]
    exact ⟨k 0 _ (by decide) rfl, k 1 _ (by decide) rfl, k 2 _ (by decide) rfl, k 3 _ (by decide) rfl, k 4 _ (by decide) rfl⟩
end Go.Proofs.Qxb6604153aDoor
