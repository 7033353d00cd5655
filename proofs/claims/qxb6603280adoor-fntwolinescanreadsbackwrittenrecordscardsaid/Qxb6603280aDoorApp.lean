/-
  The writer's appends, one law each.
-/
import Derived.Test.Qxb6603280aDoorW2
import Derived.Lib.AppendStr
namespace Go.Proofs.Qxb6603280aDoor
open Go.RowKit
set_option linter.unusedVariables false

theorem Tryd.info5 : (Tryd.prog.info? 5).map (fun i => (i.zero, i.size, i.bytes)) = some (some (.int .u8 0), 1, 1) := by kernel_rfl

/-- bytes as cells -/
def bytesV (l : List UInt8) : List Value := l.map fun c => Value.int .u8 c.toNat
/-- the slice value v owns the bytes l -/
def Own (w : World) (B : Nat) (v : Value) (l : List UInt8) : Prop := w.ownsRow B 5 1 v l.length (bytesV l)

theorem bytesV_append (l m : List UInt8) : bytesV (l ++ m) = bytesV l ++ bytesV m := by simp [bytesV]

theorem own_block {w : World} {B : Nat} {v : Value} {l : List UInt8} (h : Own w B v l) : ∀ k, v.ownBlock = some k → B ≤ k := by
  intro k hk
  rcases h.2 with ⟨rfl, _⟩ | ⟨g, cap, cur, rfl, hb, _⟩
  · simp [Value.ownBlock] at hk
  · simp [Value.ownBlock] at hk; omega

theorem wp_app {w : World} {ops : Array Oper} {rest : List Oper} {o : Oper} {a : Act} {Q : Exit → Act → World → Prop} (hgd : o.guard = none) (sl x : Operand)
    (ho : o.op = .call { callee := .builtin .append, args := #[sl, x], argTypes := #[27, 9] }) (B : Nat) (v : Value) (l : List UInt8) (hs : a.eval sl = v) (hown : Own w B v l) (s : ByteArray) (hx : a.eval x = .string s)
    (hlen : l.length + s.size ≤ 4194304) (hB : B ≤ w.heap.size)
    (h : ∀ v' w' l', Hid (l ++ s.data.toList = l') → l'.length = l.length + s.size → Own w' B v' l' → Below B w w' → wpList Tryd.prog ops Q rest (a.put o.dst v') w') : wpList Tryd.prog ops Q (o :: rest) a w := by
  obtain ⟨i5, hi5, hz50, hz51, hz52⟩ := info_parts Tryd.info5
  refine Lib.wpList_append_own_string w hgd sl x 27 9 ho B 5 i5 Tryd.underlying27 Tryd.underlying9 hi5 hz50 hz51 hz52 v l.length (bytesV l) hs hown s hx (by unfold maxLen; omega) (by omega) hB ?_
  intro v' w' ho' hg _
  have e : s.data.toList.length = s.size := by simp
  refine h v' w' _ rfl (by rw [List.length_append, e]) ?_ ((Below.refl _ _).grown hg hB (own_block hown))
  unfold Own
  rw [bytesV_append, List.length_append, e]
  exact ho'

theorem wp_app1 {w : World} {ops : Array Oper} {rest : List Oper} {o : Oper} {a : Act} {Q : Exit → Act → World → Prop} (hgd : o.guard = none) (sl x : Operand)
    (ho : o.op = .call { callee := .builtin .append, args := #[sl, x], argTypes := #[27, 27] }) (B : Nat) (v : Value) (l : List UInt8) (hs : a.eval sl = v) (hown : Own w B v l) (c : UInt8) (ad : Nat) (cp : Nat) (hx : a.eval x = .slice (some ⟨ad, 0, none⟩) 1 cp)
    (hc : w.cell? ⟨ad, 0, none⟩ = some (.int .u8 c.toNat)) (hlen : l.length + 1 ≤ 4194304) (hB : B ≤ w.heap.size)
    (h : ∀ v' w' l', Hid (l ++ [c] = l') → l'.length = l.length + 1 → Own w' B v' l' → Below B w w' → wpList Tryd.prog ops Q rest (a.put o.dst v') w') : wpList Tryd.prog ops Q (o :: rest) a w := by
  obtain ⟨i5, hi5, hz50, hz51, hz52⟩ := info_parts Tryd.info5
  refine wpList_append_own w hgd sl x 27 ho B 5 i5 (.int .u8 0) 1 1 Tryd.underlying27 hi5 hz50 hz51 hz52 rfl (by decide) v l.length (bytesV l) hs hown ⟨ad, 0, none⟩ 1 cp [.int .u8 c.toNat] hx rfl ?_ ?_ (by unfold maxLen; omega) (by omega) hB ?_
  · intro j u hj
    match j, hj with
    | 0, hj => simp at hj; subst hj; simpa [Addr.add] using hc
  · intro u hu; simp at hu; subst hu; rfl
  · intro v' w' ho' hg _
    refine h v' w' _ rfl (by simp) ?_ ((Below.refl _ _).grown hg hB (own_block hown))
    unfold Own
    rw [bytesV_append, List.length_append]
    exact ho'

theorem own_text {w : World} {B : Nat} {v : Value} {l : List UInt8} (h : Own w B v l) : (convert 27 9 v).run Tryd.prog w = .ok (.string ⟨l.toArray⟩) w := by
  rcases h.2 with ⟨rfl, hz⟩ | ⟨g, cap, cur, rfl, _⟩
  · rw [run_convert_bytes_nil w 27 5 Tryd.underlying27 Tryd.underlying5 0 0 9 Tryd.underlying9]
    obtain rfl : l = [] := List.eq_nil_of_length_eq_zero hz
    rfl
  · have hc : ∀ i, i < l.length → w.cell? ⟨g, 0 + i, none⟩ = some (.int .u8 ((l.map fun c => (c.toNat : Int)).getD i 0)) := fun i hi => by
      rw [Nat.zero_add, World.ownsRow.cellAt h i (by omega)]
      simp [bytesV, hi, List.getD]
    rw [run_convert_bytes_arg w 27 5 Tryd.underlying27 Tryd.underlying5 g 0 l.length cap (l.map fun c => (c.toNat : Int)) (by simp) hc 9 Tryd.underlying9]
    congr 2
    simp [strOfNums]
    congr 2
    apply List.ext_getElem <;> simp

theorem Own.alloc {w : World} {B : Nat} {v : Value} {l : List UInt8} (h : Own w B v l) (o : Obj) : Own (w.alloc o) B v l := World.ownsRow.alloc h o
end Go.Proofs.Qxb6603280aDoor
