import Derived.Test.Qxb6003729aApp
import Derived.Test.Qxb6003729aLayPlain
import Derived.Lib.AppendStr
namespace Go.Proofs.Qxb6003729a.Lay
open Go.RowKit Mem
set_option linter.unusedVariables false

/-- 'b = append(b, two blanks...)'. -/
theorem append_blanks {w0 : World} {ops : Array Oper} {rest : List Oper} {o : Oper} {a : Act} {Q : Exit → Act → World → Prop} (hgd : o.guard = none) (s x : Operand)
    (ho : o.op = .call { callee := .builtin .append, args := #[s, x], argTypes := #[22, 9] }) (base : Nat) (xs : List Int) (v : Value) (hs : a.eval s = v) (hown : Bytes w0 base v xs)
    (hx : a.eval x = .string ⟨#[32, 32]⟩) (hb : xs.length ≤ 1000000000) (hbase : base ≤ w0.heap.size)
    (h : ∀ v' w', Bytes w' base v' (xs ++ [32, 32]) → w0.grownBy w' v.ownBlock → wpList Try.prog ops Q rest (a.put o.dst v') w') :
    wpList Try.prog ops Q (o :: rest) a w0 := by
  obtain ⟨i0, hi, hz0, hz1, hz2⟩ := info_parts Try.info5
  have hsz : (⟨#[32, 32]⟩ : ByteArray).size = 2 := rfl
  refine Lib.wpList_append_own_string w0 hgd s x 22 9 ho base 5 i0 Try.underlying22 Try.underlying9 hi hz0 hz1 hz2 v xs.length (xs.map (.int .u8)) hs hown ⟨#[32, 32]⟩ hx (by rw [hsz]; unfold maxLen; omega) (by rw [hsz]; omega) hbase ?_
  intro v' w' h1 h2 _
  refine h v' w' ?_ h2
  unfold Bytes
  rw [List.length_append, List.map_append]; exact h1

/-- The call returned a slice of bytes of its own. -/
def RetBytes (e : Ending) (w w' : World) (base : Nat) (ys : List Int) : Prop := ∃ v', e = .returned v' ∧ Bytes w' base v' ys ∧ Below base w w'

theorem nl_zero (k : Nat) (xs : List Int) (d : Nat) : xs ++ nl k d = xs ++ (if 0 < k then [44] else []) ++ [10] ++ List.replicate (2 * d) 32 := by simp [nl]
theorem rep_two (d : Nat) : List.replicate (2 * (d + 1)) (32 : Int) = List.replicate (2 * d) 32 ++ [32, 32] := by
  rw [show 2 * (d + 1) = 2 * d + 2 from by omega, ← List.replicate_append_replicate]; rfl

set_option maxHeartbeats 1600000 in
theorem newline_any (v : Value) (xs : List Int) (i d base : Nat) (w : World) (hy : Bytes w base v xs) (hx : xs.length ≤ 900000000) (hd : d ≤ 100) (hi : i ≤ 1048576) (hbase : base ≤ w.heap.size) :
    Calls Try.prog 34 #[v, .int .i64 i, .int .i64 d] w fun e w' => RetBytes e w w' base (xs ++ nl i d) := by
  go_enter Try.func34, Try.ntmps34
  go_upto_if 8 with fail
  go_cut [0] (fun u wx => Bytes wx base u (xs ++ (if 0 < i then [44] else [])) ∧ Below base w wx)
  case first =>
    by_cases h0 : 0 < i
    · go_wp2_with (at_builtin; refine append_byte rfl (.tmp 9) (.tmp 10) rfl base xs _ rfl hy 44 rfl (by omega) hbase ?_; intro v1 w1 hy1 hg1)
      go_meet
      rw [if_pos h0]
      exact ⟨hy1, (Below.refl _ _).grown hg1 hbase hy.lt⟩
    · go_wp2
      go_meet
      rw [if_neg h0, List.append_nil]
      exact ⟨hy, Below.refl _ _⟩
  case rest =>
    clear hy
    obtain ⟨hy, hb⟩ := hcut
    have hs := hb.size
    have HY := hid hy
    have hl : (xs ++ (if 0 < i then [44] else [])).length ≤ 900000001 := by split <;> simp <;> omega
    have HN := hid (nl_zero i xs d)
    obtain ⟨ys, hys⟩ : ∃ ys, ys = xs ++ (if 0 < i then [44] else []) := ⟨_, rfl⟩
    rw [← hys] at HY hl HN
    have hy' := HY.out
    clear hys hy HY
    rename_i u0
    go_upto_region 4 with (at_builtin; refine append_byte rfl (.tmp 12) (.tmp 13) rfl base ys _ rfl hy' 10 rfl (by omega) (by omega) ?_; intro v1 w1 hy1 hg1)
    have hb1 := hb.grown hg1 (by omega) hy'.lt
    clear hg1 hb
    go_wp2
    go_loopw [0, 16] (fun u s wr => ∃ k : Nat, k ≤ d ∧ s = .int .i64 k ∧ Bytes wr base u (ys ++ [10] ++ List.replicate (2 * k) 32) ∧ Below base w wr) (fun _ s _ => d - (intOf s).toNat)
    case atStart => exact ⟨0, by omega, rfl, by simpa using hy1, hb1⟩
    case round =>
      clear hy1 hb1 hy'
      obtain ⟨k, hk, rfl, hy2, hb2⟩ := hrel
      have hs2 := hb2.size
      by_cases hlt : k < d
      · have hl2 : (ys ++ [10] ++ List.replicate (2 * k) 32).length ≤ 950000000 := by simp; omega
        have HR := hid (rep_two k)
        go_wp2_with (at_builtin; refine append_blanks rfl (.tmp 18) _ rfl base (ys ++ [10] ++ List.replicate (2 * k) 32) _ rfl hy2 rfl (by omega) (by omega) ?_; intro v3 w3 hy3 hg3)
        go_roundw
        case rel => exact ⟨k + 1, by omega, by go_num, by rw [HR.out, ← List.append_assoc]; exact hy3, hb2.grown hg3 (by omega) hy2.lt⟩
        case measure => simp [intOf]; omega
      · obtain rfl : k = d := by omega
        have HY2 := hid hy2
        go_wp2
        go_ret
        exact ⟨_, rfl, by rw [HN.out]; exact HY2.out, hb2⟩

theorem zznewline_any (v : Value) (xs : List Int) (i d base : Nat) (w : World) (hy : Bytes w base v xs) (hx : xs.length ≤ 900000000) (hd : d ≤ 100) (hi : i ≤ 1048576) (hbase : base ≤ w.heap.size) :
    Calls Try.prog 18 #[v, .int .i64 i, .int .i64 d] w fun e w' => RetBytes e w w' base (xs ++ nl i d) := by
  go_enter Try.func18, Try.ntmps18
  go_wp2_with fail
  refine (newline_any v xs i d base w hy hx hd hi hbase).mono ?_
  rintro e w1 ⟨v1, rfl, hy1, hb1⟩
  go_wp2
  go_ret
  exact ⟨_, rfl, hy1, hb1⟩

set_option maxHeartbeats 800000 in
theorem close_any (v : Value) (xs : List Int) (n d base : Nat) (w : World) (hy : Bytes w base v xs) (hx : xs.length ≤ 800000000) (hd : d ≤ 100) (hn : n ≤ 1048576) (hbase : base ≤ w.heap.size) :
    Calls Try.prog 35 #[v, .int .i64 n, .int .i64 d, .int .u8 93] w fun e w' => RetBytes e w w' base (xs ++ clos n d) := by
  by_cases h0 : 0 < n
  · have e : clos n d = nl 0 d ++ [93] := by rw [clos, if_pos h0]
    have E := hid e
    have hl : (xs ++ nl 0 d).length ≤ 900000000 := by have := nl_len 0 d; rw [List.length_append]; omega
    clear e
    go_enter Try.func35, Try.ntmps35
    go_wp2_with fail
    refine (newline_any v xs 0 d base w hy (by omega) hd (by omega) hbase).mono ?_
    rintro e w1 ⟨v1, rfl, hy1, hb1⟩
    have hs1 := hb1.size
    go_wp2_with (at_builtin; refine append_byte rfl (.tmp 14) (.tmp 16) rfl base (xs ++ nl 0 d) _ rfl hy1 93 rfl (by omega) (by omega) ?_; intro v2 w2 hy2 hg2)
    go_ret
    exact ⟨_, rfl, by rw [E.out, ← List.append_assoc]; exact hy2, hb1.grown hg2 (by omega) hy1.lt⟩
  · have e : clos n d = [93] := by rw [clos, if_neg h0]; rfl
    have E := hid e
    clear e
    go_enter Try.func35, Try.ntmps35
    go_wp2_with (at_builtin; refine append_byte rfl (.tmp 14) (.tmp 16) rfl base xs _ rfl hy 93 rfl (by omega) (by omega) ?_; intro v2 w2 hy2 hg2)
    go_ret
    exact ⟨_, rfl, by rw [E.out]; exact hy2, (Below.refl _ _).grown hg2 hbase hy.lt⟩
theorem zzclose_any (v : Value) (xs : List Int) (n d base : Nat) (w : World) (hy : Bytes w base v xs) (hx : xs.length ≤ 800000000) (hd : d ≤ 100) (hn : n ≤ 1048576) (hbase : base ≤ w.heap.size) :
    Calls Try.prog 20 #[v, .int .i64 n, .int .i64 d, .int .u8 93] w fun e w' => RetBytes e w w' base (xs ++ clos n d) := by
  go_enter Try.func20, Try.ntmps20
  go_wp2_with fail
  refine (close_any v xs n d base w hy hx hd hn hbase).mono ?_
  rintro e w1 ⟨v1, rfl, hy1, hb1⟩
  go_wp2
  go_ret
  exact ⟨_, rfl, hy1, hb1⟩

/-- Block g is a row of 20 bytes; from p on it holds L. -/
structure Buf (g : Nat) (w : World) (p : Nat) (L : List Int) : Prop where
  len : p + L.length = 20
  there : ∃ arr : Array Value, w.heap[g]? = some (.cells arr 70 (0, 0)) ∧ arr.size = 20 ∧ ∀ j, j < L.length → arr[p + j]? = some (.int .u8 (L.getD j 0))
theorem Buf.put {g : Nat} {w : World} {p : Nat} {L : List Int} (h : Buf g w p L) (hp : 0 < p) (x : Int) : Buf g (w.setCell ⟨g, p - 1, none⟩ (.int .u8 x)) (p - 1) (x :: L) := by
  have hl := h.len
  obtain ⟨arr, h1, h2, h3⟩ := h.there
  refine ⟨by simp; omega, _, set_heap h1 (p - 1) _, by simpa using h2, ?_⟩
  intro j hj
  rw [Array.getElem?_setIfInBounds]
  cases j with
  | zero => rw [Nat.add_zero, if_pos rfl, if_pos (by omega)]; rfl
  | succ j => rw [if_neg (by omega), show p - 1 + (j + 1) = p + j from by omega, h3 j (by simpa using hj)]; simp
theorem Buf.kept {g : Nat} {w w' : World} {p : Nat} {L : List Int} (h : Buf g w p L) (hb : w'.heap[g]? = w.heap[g]?) : Buf g w' p L := by
  obtain ⟨arr, h1, h2⟩ := h.there
  exact ⟨h.len, arr, hb.trans h1, h2⟩
theorem buf_new (w : World) : Buf w.heap.size (w.alloc (.cells #[.int .u8 0, .int .u8 0, .int .u8 0, .int .u8 0, .int .u8 0, .int .u8 0, .int .u8 0, .int .u8 0, .int .u8 0, .int .u8 0, .int .u8 0, .int .u8 0, .int .u8 0, .int .u8 0, .int .u8 0, .int .u8 0, .int .u8 0, .int .u8 0, .int .u8 0, .int .u8 0] 70)) 20 [] :=
  ⟨rfl, _, heap_alloc_new _ _, rfl, fun j hj => by simp at hj⟩
theorem slice_buf (g p : Nat) (l : Int) (hl : l = p) (h1 : p < 20) (w : World) :
    Sem.run Try.prog (Instr.sliceAt 70 (.pointer (some ⟨g, 0, none⟩)) (some (.int .i64 l)) none none) w = .ok (.slice (some ⟨g, p, none⟩) (20 - p) (20 - p)) w := by
  subst hl
  have ha : Try.prog.arrayLen 70 = 20 := by kernel_rfl
  have he : Try.prog.elem 70 = 5 := by kernel_rfl
  have hz : Sem.run Try.prog (sizeOf 5) w = .ok 1 w := by kernel_rfl
  rw [run_sliceAt_array_l w 70 _ (by rw [ha, he]; exact Try.underlying70) .i64 p (by omega) (by rw [ha]; omega), ha, he, hz]
  simp [Result.andThen, slicedAt, Addr.add]
  rw [if_neg (by omega)]
  split <;> simp_all

theorem Bytes.later {w w' : World} {base : Nat} {v : Value} {xs : List Int} (h : Bytes w base v xs) (hb : Below w.heap.size w w') : Bytes w' base v xs := by
  obtain ⟨h1, h2⟩ := h
  refine ⟨h1, ?_⟩
  rcases h2 with h2 | ⟨g, cap, cur, e1, e2, e3, e4⟩
  · exact Or.inl h2
  · exact Or.inr ⟨g, cap, cur, e1, e2, (hb.block g (lt_of_heap e3)).trans e3, e4⟩
theorem Bytes.top {w : World} {base : Nat} {v : Value} {xs : List Int} (h : Bytes w base v xs) : ∀ q, v.ownBlock = some q → q < w.heap.size := by
  intro q hq
  obtain ⟨h1, h2⟩ := h
  rcases h2 with ⟨e1, _⟩ | ⟨g, cap, cur, e1, e2, e3, e4⟩
  · rw [e1] at hq; cases hq
  · rw [e1] at hq; cases hq; exact lt_of_heap e3
theorem pw_step {u k : Nat} (h : u < 10 ^ (k + 1)) : u / 10 < 10 ^ k := by rw [Nat.pow_succ] at h; omega
theorem pw_pos {u k : Nat} (h : u < 10 ^ k) (hu : 0 < u) : 0 < k := by
  rcases Nat.eq_zero_or_pos k with rfl | h1
  · simp at h; omega
  · exact h1

set_option maxHeartbeats 1600000 in
theorem decimal_any (v : Value) (xs : List Int) (z : Int) (base : Nat) (w : World) (hy : Bytes w base v xs) (hx : xs.length ≤ 900000000) (hz0 : -2147483648 ≤ z) (hz1 : z ≤ 2147483647) (hbase : base ≤ w.heap.size) :
    Calls Try.prog 19 #[v, .int .i64 z] w fun e w' => RetBytes e w w' base (xs ++ dec z) := by
  by_cases h0 : z = 0
  · subst h0
    go_enter Try.func19, Try.ntmps19
    go_wp2_with (at_builtin; refine append_byte rfl (.tmp 11) (.tmp 12) rfl base xs _ rfl hy 48 rfl (by omega) (by omega) ?_; intro v2 w2 hy2 hg2)
    go_ret
    exact ⟨_, rfl, hy2, (Below.refl _ _).grown hg2 hbase hy.lt⟩
  · have hzb : (z == 0) = false := by simpa using h0
    have H0 := hid h0
    clear h0
    go_enter Try.func19, Try.ntmps19
    go_upto_if 16 with fail
    go_cut [8] (fun u wx => u = .int .u64 (z.natAbs : Nat) ∧ wx = w.alloc (.cells #[.int .u8 0, .int .u8 0, .int .u8 0, .int .u8 0, .int .u8 0, .int .u8 0, .int .u8 0, .int .u8 0, .int .u8 0, .int .u8 0, .int .u8 0, .int .u8 0, .int .u8 0, .int .u8 0, .int .u8 0, .int .u8 0, .int .u8 0, .int .u8 0, .int .u8 0, .int .u8 0] 70))
    case first =>
      by_cases hn : z < 0
      · have e : Hid (-(z + 1) + 1 = (z.natAbs : Int)) := by show _ = _; omega
        go_wp2
        go_meet
        exact ⟨by rw [e.out], rfl⟩
      · have e : Hid (z = (z.natAbs : Int)) := by show _ = _; omega
        go_wp2
        go_meet
        exact ⟨by rw [← e.out], rfl⟩
    case rest =>
      obtain ⟨rfl, hwc⟩ := hcut
      have hbuf := buf_new w
      rw [← hwc] at hbuf
      have hbe : Below w.heap.size w wc := by rw [hwc]; exact (Below.refl _ _).alloc (Nat.le_refl _) _
      have hu9 : z.natAbs < 10000000000 := by omega
      have hpos : 0 < z.natAbs := by have := H0.out; omega
      have HD : Hid (dec z = (if z < 0 then [45] else []) ++ D 20 z.natAbs []) := by show dec z = _; rw [dec, if_neg H0.out]
      clear hwc H0
      obtain ⟨U, hU⟩ : ∃ U, U = z.natAbs := ⟨_, rfl⟩
      rw [← hU] at hu9 hpos HD ⊢
      clear hU
      have HLN : Hid (1 ≤ (D 20 U []).length) := by
        obtain ⟨ds, e1, _, _, _, e5⟩ := D_form 20 U [] (by omega)
        obtain ⟨c, cs, e, _⟩ := e5 (by omega)
        show _ ≤ _; rw [e1, e]; simp
      clear hpos
      go_wp2
      go_loopw [6, 8] (fun s6 s8 wr => ∃ (p u : Nat) (L : List Int), s6 = .int .i64 p ∧ s8 = .int .u64 u ∧ 10 ≤ p ∧ p ≤ 20 ∧ u < 10000000000 ∧ Hid (u < 10 ^ (p - 10)) ∧ Buf w.heap.size wr p L ∧ Hid (D p u L = D 20 U []) ∧ Below w.heap.size w wr) (fun s6 _ _ => (intOf s6).toNat)
      case atStart => exact ⟨20, U, [], rfl, rfl, by omega, by omega, hu9, by show _ < _; omega, hbuf, rfl, hbe⟩
      case round =>
        clear hbuf hbe hu9
        obtain ⟨p, u, L, rfl, rfl, hp0, hp1, hub, hpw, hbuf, hDD, hbe⟩ := hrel
        have hlen := hbuf.len
        by_cases hu : 0 < u
        · have hk := pw_pos hpw.out hu
          obtain ⟨arr, q1, q2, q3⟩ := hbuf.there
          obtain ⟨v0, hv0⟩ : ∃ v0, arr[p - 1]? = some v0 := ⟨_, Array.getElem?_eq_getElem (by omega)⟩
          have c1 := cell_at q1 hv0
          have f1 := free_at q1 (p - 1)
          have HB2 := hid (hbuf.put (by omega) (48 + ((u % 10 : Nat) : Int)))
          have HBE2 := hid (hbe.setCell (p := ⟨w.heap.size, p - 1, none⟩) (by simp) (.int .u8 (48 + ((u % 10 : Nat) : Int))))
          have HD2 : Hid (D (p - 1) (u / 10) ((48 + ((u % 10 : Nat) : Int)) :: L) = D 20 U []) := by
            have := hDD.out
            obtain ⟨p', rfl⟩ : ∃ p', p = p' + 1 := ⟨p - 1, by omega⟩
            rw [D_step p' u L (by omega)] at this; exact this
          have HPW : Hid (u / 10 < 10 ^ (p - 1 - 10)) := by
            have := hpw.out
            rw [show p - 10 = (p - 1 - 10) + 1 from by omega] at this
            exact pw_step this
          have hm : ((u : Int) % 10) = ((u % 10 : Nat) : Int) := by omega
          have HM := hid hm
          clear hm hpw q1 q2 q3 hv0 hbuf hbe hDD
          go_wp2
          go_roundw
          case rel => exact ⟨p - 1, u / 10, _, by go_num, by go_num, by omega, by omega, by omega, HPW.out, by rw [HM.out]; exact HB2.out, HD2.out, by rw [HM.out]; exact HBE2.out⟩
          case measure => simp [intOf]; omega
        · obtain rfl : u = 0 := by omega
          have HL : Hid (L = D 20 U []) := by have := hDD.out; rw [D_zero] at this; exact this
          have hL1 : 1 ≤ L.length := by rw [HL.out]; exact HLN.out
          have hL20 : L.length ≤ 20 := by omega
          have hsl := slice_buf w.heap.size p (p : Int) rfl (by omega)
          clear hDD hpw hu hub
          by_cases hn : z < 0
          · have HDZ : Hid (dec z = [45] ++ L) := by have := HD.out; rw [if_pos hn, ← HL.out] at this; exact this
            have hy1 := Lay.Bytes.later hy hbe
            have hs1 := hbe.size
            go_upto_region 16 with (at_builtin; refine append_byte rfl (.tmp 37) (.tmp 38) rfl base xs _ rfl hy1 45 rfl (by omega) (by omega) ?_; intro v2 w2 hy2 hg2)
            have hbuf2 := hbuf.kept (w' := w2) (hg2.block _ (by obtain ⟨arr, q1, _⟩ := hbuf.there; exact lt_of_heap q1) (by intro e; have := Lay.Bytes.top hy _ e.symm; omega))
            have hb2 : Below base w w2 := (hbe.mono hbase).grown hg2 (by omega) hy1.lt
            have hs2 := hb2.size
            obtain ⟨arr, q1, q2, q3⟩ := hbuf2.there
            have HC : Hid (∀ k, k < 20 - p → w2.cell? ⟨w.heap.size, p + k, none⟩ = some (.int .u8 (L.getD k 0))) := fun k hk => cell_at q1 (q3 k (by omega))
            have HLEN : Hid (L.length = 20 - p) := by show _ = _; omega
            clear q1 q2 q3 hbuf2 hbuf hg2 hbe hlen
            go_wp2_with (at_builtin; refine append_bytes rfl (.tmp 40) (.tmp 42) rfl base (xs ++ [45]) _ rfl hy2 w.heap.size p (20 - p) (20 - p) L rfl HLEN.out HC.out (by simp; omega) (by omega) ?_; intro v3 w3 hy3 hg3)
            go_ret
            exact ⟨_, rfl, by rw [HDZ.out, ← List.append_assoc]; exact hy3, hb2.grown hg3 (by omega) hy2.lt⟩
          · have HDZ : Hid (dec z = L) := by have := HD.out; rw [if_neg hn, ← HL.out] at this; exact this
            have hy1 := Lay.Bytes.later hy hbe
            have hs1 := hbe.size
            have hb2 : Below base w wr := hbe.mono hbase
            obtain ⟨arr, q1, q2, q3⟩ := hbuf.there
            have HC : Hid (∀ k, k < 20 - p → wr.cell? ⟨w.heap.size, p + k, none⟩ = some (.int .u8 (L.getD k 0))) := fun k hk => cell_at q1 (q3 k (by omega))
            have HLEN : Hid (L.length = 20 - p) := by show _ = _; omega
            clear q1 q2 q3 hbuf hbe hlen
            go_wp2_with (at_builtin; refine append_bytes rfl (.tmp 40) (.tmp 42) rfl base xs _ rfl hy1 w.heap.size p (20 - p) (20 - p) L rfl HLEN.out HC.out (by omega) (by omega) ?_; intro v3 w3 hy3 hg3)
            go_ret
            exact ⟨_, rfl, by rw [HDZ.out]; exact hy3, hb2.grown hg3 (by omega) hy1.lt⟩
end Go.Proofs.Qxb6003729a.Lay
