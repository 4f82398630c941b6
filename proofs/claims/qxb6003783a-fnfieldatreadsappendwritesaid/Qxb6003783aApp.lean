import Derived.Test.Qxb6003783aMem
import Derived.Maps.AppendAt
import Derived.Laws.AppendOwnNone
import Derived.Deep.DeepCutAuto
namespace Go.Proofs.Qxb6003783a.Mem
open Go.RowKit
set_option linter.unusedVariables false

/-- The call's own bytes: v holds the n = xs.length bytes xs, in a block of the call's own. -/
def Bytes (w : World) (base : Nat) (v : Value) (xs : List Int) : Prop := w.ownsRow base 5 1 v xs.length (xs.map (.int .u8))

theorem Bytes.alloc {w : World} {base : Nat} {v : Value} {xs : List Int} (h : Bytes w base v xs) (o : Obj) : Bytes (w.alloc o) base v xs := World.ownsRow.alloc h o

/-- 'b = append(b, c)'. -/
theorem append_byte {w0 : World} {ops : Array Oper} {rest : List Oper} {o : Oper} {a : Act} {Q : Exit → Act → World → Prop} (hgd : o.guard = none) (s x : Operand)
    (ho : o.op = .call { callee := .builtin .append, args := #[s, x], argTypes := #[22, 22] }) (base : Nat) (xs : List Int) (v : Value) (hs : a.eval s = v) (hown : Bytes w0 base v xs) (c : Int)
    (hx : a.eval x = .slice (some ⟨w0.heap.size, 0, none⟩) 1 1) (hb : xs.length ≤ 1000000000) (hbase : base ≤ w0.heap.size)
    (h : ∀ v' w', Bytes w' base v' (xs ++ [c]) → w0.grownBy w' v.ownBlock → wpList Try.prog ops Q rest (a.put o.dst v') w') :
    wpList Try.prog ops Q (o :: rest) a (w0.alloc (.cells #[.int .u8 c] 5)) := by
  obtain ⟨i0, hi, hz0, hz1, hz2⟩ := info_parts Try.info5
  refine wpList_append_own _ hgd s x 22 ho base 5 i0 (.int .u8 0) 1 1 Try.underlying22 hi hz0 hz1 hz2 rfl (by decide) v xs.length (xs.map (.int .u8)) hs (World.ownsRow.alloc hown _) ⟨w0.heap.size, 0, none⟩ 1 1 [.int .u8 c] hx rfl (cell_one_new _ _ _) (ints_oneCell .u8 [c]) (by unfold maxLen; omega) (by omega) (by simp; omega) ?_
  intro v' w' h1 h2 _
  refine h v' w' ?_ (grown_trans (grown_alloc _ _ _) h2)
  unfold Bytes
  rw [List.length_append, List.map_append]; exact h1

/-- 'b = append(b, src...)', src a slice of bytes that lies somewhere. -/
theorem append_bytes {w0 : World} {ops : Array Oper} {rest : List Oper} {o : Oper} {a : Act} {Q : Exit → Act → World → Prop} (hgd : o.guard = none) (s x : Operand)
    (ho : o.op = .call { callee := .builtin .append, args := #[s, x], argTypes := #[22, 22] }) (base : Nat) (xs : List Int) (v : Value) (hs : a.eval s = v) (hown : Bytes w0 base v xs) (b off m cap : Nat) (ys : List Int)
    (hx : a.eval x = .slice (some ⟨b, off, none⟩) m cap) (hl : ys.length = m) (hc : ∀ k, k < m → w0.cell? ⟨b, off + k, none⟩ = some (.int .u8 (ys.getD k 0))) (hb : xs.length + m ≤ 1000000000) (hbase : base ≤ w0.heap.size)
    (h : ∀ v' w', Bytes w' base v' (xs ++ ys) → w0.grownBy w' v.ownBlock → wpList Try.prog ops Q rest (a.put o.dst v') w') :
    wpList Try.prog ops Q (o :: rest) a w0 := by
  obtain ⟨i0, hi, hz0, hz1, hz2⟩ := info_parts Try.info5
  refine wpList_append_own _ hgd s x 22 ho base 5 i0 (.int .u8 0) 1 1 Try.underlying22 hi hz0 hz1 hz2 rfl (by decide) v xs.length (xs.map (.int .u8)) hs hown ⟨b, off, none⟩ m cap (ys.map (.int .u8)) hx (by simp [hl]) ?_ (ints_oneCell .u8 ys) (by unfold maxLen; omega) (by omega) hbase ?_
  · intro j u hj
    have hj' : j < m := by
      rcases Nat.lt_or_ge j m with h | h
      · exact h
      · rw [List.getElem?_eq_none (by simp; omega)] at hj; cases hj
    have e : (⟨b, off, none⟩ : Addr).add j = ⟨b, off + j, none⟩ := by unfold Addr.add; split <;> simp_all
    rw [e, hc j hj']
    have hjl : j < ys.length := by omega
    simp [List.getElem?_eq_getElem hjl] at hj
    subst hj
    simp [List.getD, List.getElem?_eq_getElem hjl]
  · intro v' w' h1 h2 _
    refine h v' w' ?_ h2
    unfold Bytes
    rw [List.length_append, List.map_append, hl]; exact h1

/-- 'b = append(b, src...)', src nil. -/
theorem append_nil {w0 : World} {ops : Array Oper} {rest : List Oper} {o : Oper} {a : Act} {Q : Exit → Act → World → Prop} (hgd : o.guard = none) (s x : Operand)
    (ho : o.op = .call { callee := .builtin .append, args := #[s, x], argTypes := #[22, 22] }) (base : Nat) (xs : List Int) (v : Value) (hs : a.eval s = v) (hown : Bytes w0 base v xs)
    (hx : a.eval x = .slice none 0 0) (h : wpList Try.prog ops Q rest (a.put o.dst v) w0) : wpList Try.prog ops Q (o :: rest) a w0 := by
  obtain ⟨i0, hi, hz0, hz1, hz2⟩ := info_parts Try.info5
  exact wpList_append_own_none hgd s x 22 ho base 5 i0 1 Try.underlying22 hi v _ _ hs hown hx h

/-- 'make([]byte, 0, n)'. -/
theorem make_room {w0 : World} {ops : Array Oper} {rest : List Oper} {o : Oper} {a : Act} {Q : Exit → Act → World → Prop} (hgd : o.guard = none) (l c : Operand) (hop : o.op = .makeSlice 22 l c) (base n : Nat) (C : Int)
    (hl : a.eval l = .int .i64 0) (hc : a.eval c = .int .i64 C) (hC : C = n) (hn : n ≤ 1000000000) (hbase : base ≤ w0.heap.size)
    (h : ∀ w', Bytes w' base (.slice (some ⟨w0.heap.size, 0, none⟩) 0 n) [] → w0.grownBy w' none → wpList Try.prog ops Q rest (a.put o.dst (.slice (some ⟨w0.heap.size, 0, none⟩) 0 n)) w') :
    wpList Try.prog ops Q (o :: rest) a w0 := by
  obtain ⟨i0, hi, hz0, hz1, hz2⟩ := info_parts Try.info5
  exact wpList_make_own w0 hgd l c 22 hop base 5 i0 (.int .u8 0) 1 Try.underlying22 hi hz0 hz1 .i64 .i64 C n hl hc hC (by rw [hz2]; omega) (by unfold maxLen; omega) hbase h

/-- The bytes of the call's own, as a callee reads them. -/
theorem Bytes.row {w : World} {base : Nat} {v : Value} {xs : List Int} (h : Bytes w base v xs) : ∃ a cap, v = .slice a xs.length cap ∧ Row w a xs.length (fun k => .int .u8 (xs.getD k 0)) := row_of_owns h
theorem Bytes.lt {w : World} {base : Nat} {v : Value} {xs : List Int} (h : Bytes w base v xs) : ∀ q, v.ownBlock = some q → base ≤ q := fun q hq => (World.ownsRow.lt h q hq).1
end Go.Proofs.Qxb6003783a.Mem
