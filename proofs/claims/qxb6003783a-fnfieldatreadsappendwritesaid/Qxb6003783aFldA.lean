import Derived.Test.Qxb6003783aApp
import Derived.Lib.AppendStr
import Derived.Lib.Varint
import Derived.Lib.VarintBits
namespace Go.Proofs.Qxb6003783a.Fld
open Go.RowKit Mem
set_option linter.unusedVariables false

/-- The varint of x below 2097152, as numbers. -/
def uv (x : Nat) : List Int :=
  if x < 128 then [(x : Int)]
  else if x < 16384 then [((x % 128 + 128 : Nat) : Int), ((x / 128 : Nat) : Int)]
  else [((x % 128 + 128 : Nat) : Int), ((x / 128 % 128 + 128 : Nat) : Int), ((x / 128 / 128 : Nat) : Int)]
theorem uv_small {x : Nat} (h : x < 128) : uv x = [(x : Int)] := by rw [uv, if_pos h]
theorem uv_two {x : Nat} (h : 128 ≤ x) (h2 : x < 16384) : uv x = [((x % 128 + 128 : Nat) : Int), ((x / 128 : Nat) : Int)] := by rw [uv, if_neg (by omega), if_pos h2]
theorem uv_three {x : Nat} (h : 16384 ≤ x) (h2 : x < 2097152) : uv x = [((x % 128 + 128 : Nat) : Int), ((x / 128 % 128 + 128 : Nat) : Int), ((x / 128 / 128 : Nat) : Int)] := by rw [uv, if_neg (by omega), if_neg (by omega)]
theorem uv_big {x : Nat} (h : 128 ≤ x) (hx : x < 2097152) : uv x = ((x % 128 + 128 : Nat) : Int) :: uv (x / 128) := by
  by_cases h2 : x < 16384
  · rw [uv_two h h2, uv_small (by omega)]
  · rw [uv_three (by omega) hx, uv_two (by omega) (by omega)]
theorem uv_pos (x : Nat) : 1 ≤ (uv x).length := by
  rw [uv]; split
  · simp
  · split <;> simp
theorem uv_len {x : Nat} (h : x < 2097152) : (uv x).length ≤ 3 := by
  by_cases h1 : x < 128
  · rw [uv_small h1]; simp
  · by_cases h2 : x < 16384
    · rw [uv_two (by omega) h2]; simp
    · rw [uv_three (by omega) h]; simp

/-- The bytes of a string, as numbers. -/
def sb (s : ByteArray) : List Int := s.data.toList.map fun b => (b.toNat : Int)
theorem sb_len (s : ByteArray) : (sb s).length = s.size := by rw [sb, List.length_map, Array.length_toList]; rfl
theorem sb_cells (s : ByteArray) : Lib.strCells s = (sb s).map (.int .u8) := by simp [Lib.strCells, sb]
theorem sb_get (s : ByteArray) (k : Nat) (h : k < s.size) : ((s[k]'h).toNat : Int) = (sb s).getD k 0 := by
  have hk : k < s.data.toList.length := by rw [Array.length_toList]; exact h
  simp only [sb, List.getD, List.getElem?_map, List.getElem?_eq_getElem hk]
  rfl

/-- 'b = append(b, s...)', s a string. -/
theorem append_string {w0 : World} {ops : Array Oper} {rest : List Oper} {o : Oper} {a : Act} {Q : Exit → Act → World → Prop} (hgd : o.guard = none) (s x : Operand)
    (ho : o.op = .call { callee := .builtin .append, args := #[s, x], argTypes := #[22, 9] }) (base : Nat) (xs : List Int) (v : Value) (hs : a.eval s = v) (hown : Bytes w0 base v xs) (t : ByteArray)
    (hx : a.eval x = .string t) (hb : xs.length + t.size ≤ 1000000000) (hbase : base ≤ w0.heap.size)
    (h : ∀ v' w', Bytes w' base v' (xs ++ sb t) → w0.grownBy w' v.ownBlock → wpList Try.prog ops Q rest (a.put o.dst v') w') :
    wpList Try.prog ops Q (o :: rest) a w0 := by
  obtain ⟨i0, hi, hz0, hz1, hz2⟩ := info_parts Try.info5
  refine Lib.wpList_append_own_string w0 hgd s x 22 9 ho base 5 i0 Try.underlying22 Try.underlying9 hi hz0 hz1 hz2 v xs.length (xs.map (.int .u8)) hs hown t hx (by unfold maxLen; omega) (by omega) hbase ?_
  intro v' w' h1 h2 _
  refine h v' w' ?_ h2
  unfold Bytes
  rw [List.length_append, List.map_append, sb_len, ← sb_cells]; exact h1

/-- What stood in w, but for block o and rows of m bytes and more, stands in w'. -/
def Safe (o : Option Nat) (m : Nat) (w w' : World) : Prop :=
  w.heap.size ≤ w'.heap.size ∧ ∀ q arr t f, w.heap[q]? = some (.cells arr t f) → some q ≠ o → (t ≠ 5 ∨ arr.size < m) → w'.heap[q]? = w.heap[q]?
theorem Safe.refl (o : Option Nat) (m : Nat) (w : World) : Safe o m w w := ⟨Nat.le_refl _, fun _ _ _ _ _ _ _ => rfl⟩
theorem Safe.first {w w' : World} {o : Option Nat} {m : Nat} (h : w.grownBy w' o) : Safe o m w w' := ⟨h.size, fun q arr t f hq ho _ => h.block q (lt_of_heap hq) ho⟩
theorem Safe.trans {o : Option Nat} {m : Nat} {w w1 w2 : World} (h : Safe o m w w1) (k : Safe none m w1 w2) : Safe o m w w2 :=
  ⟨Nat.le_trans h.1 k.1, fun q arr t f hq ho hm => by
    have e := h.2 q arr t f hq ho hm
    exact (k.2 q arr t f (e.trans hq) (by simp) hm).trans e⟩
theorem Safe.step {m base : Nat} {v : Value} {xs : List Int} {w w' : World} (hy : Bytes w base v xs) (hm : m ≤ xs.length) (h : w.grownBy w' v.ownBlock) : Safe none m w w' := by
  refine ⟨h.size, fun q arr t f hq _ ht => h.block q (lt_of_heap hq) ?_⟩
  intro e
  obtain ⟨_, h2⟩ := hy
  rcases h2 with ⟨e1, _⟩ | ⟨g, cap, cur, e1, e2, e3, e4, e5, e6, e7⟩
  · rw [e1] at e; cases e
  · rw [e1] at e
    have : q = g := by simpa [Value.ownBlock] using e
    subst this
    rw [hq] at e3
    injection e3 with e3
    injection e3 with e3 e3t _
    subst e3
    rcases ht with ht | ht
    · exact ht e3t
    · omega

/-- The call returned a slice of bytes of its own. -/
def RetBytes (e : Ending) (w w' : World) (base m : Nat) (ys : List Int) : Prop := ∃ v', e = .returned v' ∧ Bytes w' base v' ys ∧ Below base w w' ∧ Safe none m w w'

set_option maxRecDepth 100000 in
set_option maxHeartbeats 1600000 in
theorem appendUvarint_any (v : Value) (xs : List Int) (x base m : Nat) (w : World) (hy : Bytes w base v xs) (hm : m ≤ xs.length) (hl : xs.length ≤ 900000000) (hx : x < 2097152) (hbase : base ≤ w.heap.size) :
    Calls Try.prog 18 #[v, .int .u64 x] w fun e w' => RetBytes e w w' base m (xs ++ uv x) := by
  have hlen := uv_len hx
  go_enter Try.func18, Try.ntmps18
  go_wp2
  go_loopw [0, 1] (fun u s wr => ∃ (y : Nat) (pre : List Int), s = .int .u64 y ∧ y ≤ x ∧ uv x = pre ++ uv y ∧ Bytes wr base u (xs ++ pre) ∧ Below base w wr ∧ Safe none m w wr) (fun _ s _ => (intOf s).toNat)
  case atStart => exact ⟨x, [], rfl, Nat.le_refl _, rfl, by rw [List.append_nil]; exact hy, Below.refl _ _, Safe.refl _ _ _⟩
  case round =>
    obtain ⟨y, pre, rfl, hyx, hsp, hy1, hb, hsf⟩ := hrel
    have hpl : pre.length ≤ 3 := by
      have h2 := congrArg List.length hsp
      rw [List.length_append] at h2
      omega
    have hsz := hb.size
    have hlx : (xs ++ pre).length ≤ 900000003 := by rw [List.length_append]; omega
    have hmx : m ≤ (xs ++ pre).length := by rw [List.length_append]; omega
    have HSP := hid hsp
    clear hsp
    by_cases h128 : 128 ≤ y
    · have hor : bits .or .u8 ((y : Int) % 256) 128 = ((y % 128 + 128 : Nat) : Int) := by
        rw [Lib.u8_or128_any _ (by omega) (by omega)]
        omega
      have HB128 := hid (uv_big h128 (by omega))
      have EC : Hid (((y % 128 + 128 : Nat) : Int) = (y : Int) % 128 + 128) := by show _ = _; omega
      go_wp2_with (at_builtin; refine append_byte rfl (.tmp 7) (.tmp 11) rfl base (xs ++ pre) _ rfl hy1 ((y : Int) % 128 + 128) rfl (by omega) (by omega) ?_; intro v2 w2 hy2 hg2)
      have hb2 := hb.grown hg2 (by omega) hy1.lt
      have hs2 := hsf.trans (Safe.step hy1 hmx hg2)
      go_wp2
      go_roundw
      case rel => exact ⟨y / 128, pre ++ [((y % 128 + 128 : Nat) : Int)], by go_num, by omega, by rw [HSP.out, HB128.out]; simp, by rw [← List.append_assoc, EC.out]; exact hy2, hb2, hs2⟩
      case measure => simp [intOf]; omega
    · have HB128 := hid (uv_small (x := y) (by omega))
      go_wp2_with (at_builtin; refine append_byte rfl (.tmp 15) (.tmp 18) rfl base (xs ++ pre) _ rfl hy1 (y : Int) rfl (by omega) (by omega) ?_; intro v2 w2 hy2 hg2)
      have hb2 := hb.grown hg2 (by omega) hy1.lt
      have hs2 := hsf.trans (Safe.step hy1 hmx hg2)
      go_wp2
      go_ret
      exact ⟨_, rfl, by rw [HSP.out, HB128.out, ← List.append_assoc]; exact hy2, hb2, hs2⟩

theorem appendField_any (v : Value) (xs : List Int) (t : ByteArray) (base m : Nat) (w : World) (hy : Bytes w base v xs) (hm : m ≤ xs.length) (hl : xs.length ≤ 100000000) (ht : t.size ≤ 1048576) (hbase : base ≤ w.heap.size) :
    Calls Try.prog 17 #[v, .string t] w fun e w' => RetBytes e w w' base m (xs ++ (uv t.size ++ sb t)) := by
  have hlen := uv_len (x := t.size) (by omega)
  go_enter Try.func17, Try.ntmps17
  go_wp2_with fail
  refine (appendUvarint_any v xs t.size base m w hy hm (by omega) (by omega) hbase).mono ?_
  rintro e w1 ⟨v1, rfl, hy1, hb1, hs1⟩
  have hsz := hb1.size
  have hlx : (xs ++ uv t.size).length ≤ 100000003 := by rw [List.length_append]; omega
  have hmx : m ≤ (xs ++ uv t.size).length := by rw [List.length_append]; omega
  go_wp2_with (at_builtin; refine append_string rfl (.tmp 9) (.tmp 10) rfl base (xs ++ uv t.size) _ rfl hy1 t rfl (by omega) (by omega) ?_; intro v2 w2 hy2 hg2)
  go_ret
  exact ⟨_, rfl, by rw [← List.append_assoc]; exact hy2, hb1.grown hg2 (by omega) hy1.lt, hs1.trans (Safe.step hy1 hmx hg2)⟩
end Go.Proofs.Qxb6003783a.Fld
