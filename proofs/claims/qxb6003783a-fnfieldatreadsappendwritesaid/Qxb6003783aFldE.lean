import Derived.Test.Qxb6003783aFldD
namespace Go.Proofs.Qxb6003783a.Fld
open Go.RowKit Mem
set_option linter.unusedVariables false

theorem getD_app (A B : List Int) (i q : Nat) (h : A.length = i) : (A ++ B).getD (i + q) 0 = B.getD q 0 := by
  subst h; simp only [List.getD]; rw [List.getElem?_append_right (by omega)]; simp
theorem getD_left (A B : List Int) (q : Nat) (h : q < A.length) : (A ++ B).getD q 0 = A.getD q 0 := by simp [List.getD, List.getElem?_append, h]

def cutA (g l cap : Nat) : Option Addr := if cap = l then some ⟨g, 0, none⟩ else some ⟨g, l, none⟩
theorem slice_lh (g N cap : Nat) (s e : Nat) (h1 : s ≤ e) (h2 : e ≤ cap) (w : World) :
    Sem.run Try.prog (Instr.slice 22 (.slice (some ⟨g, 0, none⟩) N cap) (some (.int .i64 s)) (some (.int .i64 e)) none) w = .ok (.slice (cutA g s cap) (e - s) (cap - s)) w := by
  have he : Try.prog.elem 22 = 5 := by kernel_rfl
  have hz : Sem.run Try.prog (sizeOf 5) w = .ok 1 w := by kernel_rfl
  rw [run_slice_lh w 22 _ N cap (by rw [he]; exact Try.underlying22) .i64 .i64 s e (by omega) (by omega) (by omega), he, hz]
  simp [Result.andThen, sliced, Addr.add, cutA]
  split <;> simp_all
theorem slice_l (g N cap : Nat) (s : Nat) (h1 : s ≤ N) (w : World) :
    Sem.run Try.prog (Instr.slice 22 (.slice (some ⟨g, 0, none⟩) N cap) (some (.int .i64 s)) none none) w = .ok (.slice (cutA g s cap) (N - s) (cap - s)) w := by
  have he : Try.prog.elem 22 = 5 := by kernel_rfl
  have hz : Sem.run Try.prog (sizeOf 5) w = .ok 1 w := by kernel_rfl
  rw [run_slice_l w 22 _ N cap (by rw [he]; exact Try.underlying22) .i64 s (by omega) (by omega), he, hz]
  simp [Result.andThen, sliced, Addr.add, cutA]
  split <;> simp_all
theorem slice_h (g N cap : Nat) (e : Nat) (h2 : e ≤ cap) (w : World) :
    Sem.run Try.prog (Instr.slice 22 (.slice (some ⟨g, 0, none⟩) N cap) none (some (.int .i64 e)) none) w = .ok (.slice (some ⟨g, 0, none⟩) e cap) w := by
  have he : Try.prog.elem 22 = 5 := by kernel_rfl
  have hz : Sem.run Try.prog (sizeOf 5) w = .ok 1 w := by kernel_rfl
  rw [run_slice_h w 22 _ N cap (by rw [he]; exact Try.underlying22) .i64 e (by omega) (by omega), he, hz]
  simp [Result.andThen, sliced, Addr.add]
theorem row_cut {w : World} {g N cap l m : Nat} {T : List Int} (h : Row w (some ⟨g, 0, none⟩) N (fun k => .int .u8 (T.getD k 0))) (hN : N ≤ cap) (hm : l + m ≤ N) : Row w (cutA g l cap) m (fun k => .int .u8 (T.getD (l + k) 0)) := by
  rcases Nat.eq_zero_or_pos m with h0 | h0
  · exact Or.inl h0
  · rcases h with h | ⟨b, off, h1, h2⟩
    · omega
    · injection h1 with h1
      injection h1 with e1 e2 _
      subst e1 e2
      refine Or.inr ⟨g, l, by rw [cutA, if_neg (by omega)], fun k hk => ?_⟩
      have := h2 (l + k) (by omega)
      rw [Nat.zero_add] at this; exact this
theorem row_head {w : World} {g N m : Nat} {T : List Int} (h : Row w (some ⟨g, 0, none⟩) N (fun k => .int .u8 (T.getD k 0))) (hm : m ≤ N) : Row w (some ⟨g, 0, none⟩) m (fun k => .int .u8 (T.getD k 0)) := by
  rcases h with h | ⟨b, off, h1, h2⟩
  · exact Or.inl (by omega)
  · exact Or.inr ⟨b, off, h1, fun k hk => h2 k (by omega)⟩

theorem zzfield_full (a : Option Addr) (n cap i N s e : Nat) (f : Nat → Int) (x : Nat) (w : World) (hr : Row w a n (fun k => .int .u8 (f k))) (hf : ∀ k, k < (uv x).length → f k = (uv x).getD k 0) (hx : x < 2097152) (hn : n ≤ 100000000) (hN : N = i + n) (hi : i ≤ 100000000) (hfull : (uv x).length + x ≤ n) (hs : s = i + (uv x).length) (he : e = s + x) :
    Calls Try.prog 11 #[.slice a n cap, .int .i64 i, .int .i64 N] w fun r w' => r = .returned (.tuple #[.int .i64 s, .int .i64 e, .bool true]) ∧ Below w.heap.size w w' := by
  refine (zzfieldAt_any a n cap i N f x w hr (fun k _ hk => hf k hk) hx hn hN hi).mono ?_
  rintro r w' ⟨rfl, hb⟩
  refine ⟨?_, hb⟩
  have h1 : fits x n = true := by rw [fits, decide_eq_true hfull]
  rw [fS, fE, h1, he, hs]; rfl
theorem zzfield_cut (a : Option Addr) (n cap i N : Nat) (f : Nat → Int) (x : Nat) (w : World) (hr : Row w a n (fun k => .int .u8 (f k))) (hf : ∀ k, k < (uv x).length → f k = (uv x).getD k 0) (hx : x < 2097152) (hn : n ≤ 100000000) (hN : N = i + n) (hi : i ≤ 100000000) (hcut : n < (uv x).length + x) :
    Calls Try.prog 11 #[.slice a n cap, .int .i64 i, .int .i64 N] w fun r w' => r = .returned (.tuple #[.int .i64 0, .int .i64 0, .bool false]) ∧ Below w.heap.size w w' := by
  refine (zzfieldAt_any a n cap i N f x w hr (fun k _ hk => hf k hk) hx hn hN hi).mono ?_
  rintro r w' ⟨rfl, hb⟩
  refine ⟨?_, hb⟩
  have h1 : fits x n = false := by rw [fits, decide_eq_false (by omega)]
  rw [fS, fE, h1]; rfl

theorem bytes_of_own {w w1 : World} {a : Option Addr} {xs : List Int} {base : Nat} (h : Own w w1 5 a xs.length (fun k => .int .u8 (xs.getD k 0))) (hb : base ≤ w.heap.size) (hx : xs.length ≤ 1048576) : Bytes w1 base (.slice a xs.length xs.length) xs := by
  rcases h with ⟨rfl, h0, rfl⟩ | ⟨rfl, rfl⟩
  · have : xs = [] := List.eq_nil_of_length_eq_zero h0
    subst this; exact World.ownsRow_nil _ _ _ _
  · refine ⟨by simp, Or.inr ⟨w.heap.size, xs.length, mk xs.length (fun k => .int .u8 (xs.getD k 0)), rfl, hb, heap_alloc_new _ _, Nat.le_refl _, by unfold maxLen; omega, by rw [mk_size]; simp, ?_⟩⟩
    rw [Nat.mul_one, List.take_of_length_le (by simp [mk])]
    apply List.ext_getElem?
    intro j
    rcases Nat.lt_or_ge j xs.length with hj | hj
    · simp [mk, List.getD, hj]
    · simp [mk, List.getElem?_eq_none hj]; exact hj
theorem own_block {w w1 : World} {a : Option Addr} {n : Nat} {f : Nat → Value} {cap : Nat} (h : Own w w1 5 a n f) : ∀ q, (Value.slice a n cap).ownBlock = some q → q = w.heap.size ∧ q < w1.heap.size := by
  intro q hq
  rcases h with ⟨rfl, h0, rfl⟩ | ⟨rfl, rfl⟩
  · cases hq
  · cases hq; simp
theorem keep_row {w1 w2 w3 : World} {a2 : Option Addr} {n : Nat} {f : Nat → Value} {o : Option Nat} (h : Own w1 w2 5 a2 n f) (hs : Safe o (n + 1) w2 w3) (ho : ∀ q, o = some q → q < w1.heap.size) : Row w3 a2 n f := by
  rcases h with ⟨_, h0, _⟩ | ⟨h1, rfl⟩
  · exact Or.inl h0
  · have hh : w3.heap[w1.heap.size]? = _ := (hs.2 w1.heap.size (mk n f) 5 (0, 0) (heap_alloc_new _ _) (by intro e; have := ho _ e.symm; omega) (Or.inr (by rw [mk_size]; omega))).trans (heap_alloc_new _ _)
    exact Or.inr ⟨_, 0, h1, fun k hk => by rw [Nat.zero_add]; exact cell_at hh (mk_get n f k hk)⟩

theorem enc_len (k t : ByteArray) (d : Bool) (hk : k.size ≤ 1048576) (ht : t.size ≤ 1048576) : 2 ≤ (enc k t d).length ∧ (enc k t d).length ≤ 2100000 := by
  have h1 := uv_pos k.size
  have h2 := uv_len (x := k.size) (by omega)
  have h3 := uv_pos t.size
  have h4 := uv_len (x := t.size) (by omega)
  cases d <;> simp [enc, fld, sb_len] <;> omega
theorem field_at (A R : List Int) (s : ByteArray) (i : Nat) (hA : A.length = i) : (∀ q, q < (uv s.size).length → (A ++ (fld s ++ R)).getD (i + q) 0 = (uv s.size).getD q 0) ∧ ∀ q, q < s.size → (A ++ (fld s ++ R)).getD (i + (uv s.size).length + q) 0 = (sb s).getD q 0 := by
  refine ⟨fun q hq => ?_, fun q hq => ?_⟩
  · rw [getD_app A _ i q hA, fld, List.append_assoc, getD_left _ _ q hq]
  · rw [Nat.add_assoc, getD_app A _ i _ hA, fld, List.append_assoc, getD_app _ _ _ q rfl, getD_left _ _ q (by rw [sb_len]; exact hq)]
theorem fld_len (s : ByteArray) : (fld s).length = (uv s.size).length + s.size := by rw [fld, List.length_append, sb_len]
/-- What the last field is: it begins at L and holds x bytes. -/
def Last (T : List Int) (N : Nat) (l : Value) : Prop := ∃ L x : Nat, l = .int .i64 L ∧ x < 2097152 ∧ L + ((uv x).length + x) = N ∧ ∀ q, q < (uv x).length → T.getD (L + q) 0 = (uv x).getD q 0

theorem Bytes.form {w : World} {base : Nat} {v : Value} {xs : List Int} (h : Bytes w base v xs) : ∃ a cap, v = .slice a xs.length cap ∧ Row w a xs.length (fun k => .int .u8 (xs.getD k 0)) ∧ (a = none ∨ ∃ g, a = some ⟨g, 0, none⟩) ∧ xs.length ≤ cap ∧ cap ≤ 9223372036854775807 := by
  obtain ⟨a, cap, h1, h2⟩ := h.row
  refine ⟨a, cap, h1, h2, ?_⟩
  obtain ⟨_, h3⟩ := h
  rcases h3 with ⟨e, e0⟩ | ⟨g, cap', cur, e, _, _, e4, e5, _⟩
  · rw [e] at h1; injection h1 with h1 _ h3; exact ⟨Or.inl h1.symm, by omega, by omega⟩
  · rw [e] at h1; injection h1 with h1 _ h3; unfold maxLen at e5; exact ⟨Or.inr ⟨g, h1.symm⟩, by omega, by omega⟩

set_option maxRecDepth 100000 in
set_option maxHeartbeats 3000000 in
theorem law_any (a : Option Addr) (n cap : Nat) (xs : List Int) (k t : ByteArray) (d : Bool) (w : World) (hr : Row w a n (fun k => .int .u8 (xs.getD k 0))) (hl : xs.length = n) (hnil : a = none → n = 0) (m : n ≤ 9223372036854775807) (mk : k.size ≤ 9223372036854775807) (mt : t.size ≤ 9223372036854775807) :
    Calls Try.prog 4 #[.slice a n cap, .string k, .string t, .bool d] w fun e w' => e = .returned (.bool true) ∧ Below w.heap.size w w' := by
  have HL := hid hl
  clear hl
  go_enter Try.func4, Try.ntmps4
  go_wp2_with fail
  refine (zzBytes_any _ _ _ _ _ _ _ m mk mt).mono ?_
  rintro e w' ⟨⟨x, rfl, hx⟩, hw⟩
  subst hw
  cases x with
  | false =>
    go_wp2
    go_ret
    exact ⟨rfl, Below.refl _ _⟩
  | true =>
    have hn := hx rfl
    clear hx m mk mt
    have hk : k.size ≤ 1048576 := by omega
    have ht : t.size ≤ 1048576 := by omega
    have hn1 : n ≤ 1048576 := by omega
    go_wp2_with fail
    refine (copyBytes_any _ _ _ _ _ hr hnil hn1).mono ?_
    rintro e w1 ⟨a1, rfl, ho1⟩
    have hb1 := ho1.below
    have hR1 := ho1.row
    have hs1 := hb1.size
    have hnil1 : a1 = none → n = 0 := by
      intro e
      rcases ho1 with ⟨_, h, _⟩ | ⟨h, _⟩
      · exact h
      · rw [e] at h; cases h
    clear hr hnil
    go_wp2_with fail
    refine (copyBytes_any _ _ _ _ _ hR1 hnil1 hn1).mono ?_
    rintro e w2 ⟨a2, rfl, ho2⟩
    have hb2 := ho2.below
    have hs2 := hb2.size
    have hy : Bytes w2 w'.heap.size (.slice a1 n n) xs := by
      have h := bytes_of_own (xs := xs) (a := a1) (w := w') (w1 := w1) (base := w'.heap.size) (by rw [HL.out]; exact ho1) (Nat.le_refl _) (by rw [HL.out]; exact hn1)
      rw [HL.out] at h
      exact World.ownsRow.kept h (grown_of_below hb2) (by cases (Value.slice a1 n n).ownBlock <;> simp)
    go_wp2_with fail
    refine (zzappendWrite_any _ xs k t d w'.heap.size _ hy (by rw [HL.out]; omega) hk ht (by omega)).mono ?_
    rintro e w3 ⟨v3, rfl, hy3, hb3, hs3⟩
    rw [HL.out] at hs3
    have hkeep := keep_row ho2 hs3 (fun q hq => (own_block ho1 q hq).2)
    have hb13 : Below w'.heap.size w' w3 := (hb1.trans (hb2.mono hs1)).trans hb3
    clear hs3 ho1 ho2 hy hR1 hb2 hb1 hnil1 hb3
    obtain ⟨el1, el2⟩ := enc_len k t d hk ht
    obtain ⟨T, hT⟩ : ∃ T, T = xs ++ enc k t d := ⟨_, rfl⟩
    rw [← hT] at hy3
    obtain ⟨N, hN⟩ : ∃ N, N = T.length := ⟨_, rfl⟩
    have hN1 : n + 2 ≤ N ∧ N ≤ n + 2100000 := by rw [hN, hT, List.length_append, HL.out]; omega
    obtain ⟨hN1, hN2⟩ := hN1
    obtain ⟨a3, c3, hv3, hrow, hta, hNc, hcm⟩ := Fld.Bytes.form hy3
    rw [← hN] at hrow hNc hv3
    subst hv3
    obtain ⟨g, rfl⟩ : ∃ g, a3 = some ⟨g, 0, none⟩ := by
      rcases hta with h | h
      · subst h
        rcases hrow with h0 | ⟨_, _, h1, _⟩
        · omega
        · cases h1
      · exact h
    clear hta hy3 el1 el2
    have HT := hid hT
    have HN := hid hN
    have HK := hid hkeep
    have HR := hid hrow
    clear hT hN hkeep hrow
    have hsl1 := fun w => slice_h g N c3 n (by omega) w
    have hhd : Row w3 (some ⟨g, 0, none⟩) n (fun q => .int .u8 (xs.getD q 0)) := by
      rcases row_head HR.out (show n ≤ N by omega) with h | ⟨b, o, h1, h2⟩
      · exact Or.inl h
      · refine Or.inr ⟨b, o, h1, fun q hq => ?_⟩
        have := h2 q hq
        simp only [HT.out, getD_left xs (enc k t d) q (by rw [HL.out]; exact hq)] at this
        exact this
    go_wp2_with fail
    refine (bytesEqual_any _ _ n _ _ (fun q => xs.getD q 0) _ hhd HK.out (by omega)).mono ?_
    rintro e w4 ⟨rfl, hb4⟩
    clear hsl1 hhd HK
    have HR4 := hid (HR.out.later hb4)
    have hb14 : Below w'.heap.size w' w4 := hb13.trans (hb4.mono hb13.size)
    clear hb4 hb13 HR
    obtain ⟨kd, hkd⟩ : ∃ kd : Int, kd = if d then 2 else 1 := ⟨_, rfl⟩
    have HKD := hid hkd
    clear hkd
    go_upto_if 79 with fail
    go_cut [12] (fun v wx => v = .int .u8 kd ∧ wx = w4)
    case first =>
      have hkd := HKD.out
      cases d with
      | true =>
        simp only [if_true] at hkd
        subst hkd
        go_wp2
        go_meet
        exact ⟨rfl, rfl⟩
      | false =>
        rw [if_neg (by simp)] at hkd
        subst hkd
        go_wp2
        go_meet
        exact ⟨rfl, rfl⟩
    case rest =>
    obtain ⟨rfl, hwc⟩ := hcut
    subst hwc
    have hTk : T.getD n 0 = kd := by
      have := getD_app xs (enc k t d) n 0 HL.out
      rw [Nat.add_zero] at this
      rw [HT.out, this, HKD.out]
      cases d <;> rfl
    have hcn : wc.cell? ⟨g, n, none⟩ = some (.int .u8 kd) := by
      rcases HR4.out with h | ⟨b, o, h1, h2⟩
      · omega
      · injection h1 with h1
        injection h1 with e1 e2 _
        subst e1 e2
        have := h2 n (by omega)
        rw [Nat.zero_add] at this
        simp only [hTk] at this
        exact this
    have hcmp : (kd != kd) = false := by simp
    clear hTk
    obtain ⟨p0, hp0⟩ : ∃ p0, p0 = n + 1 := ⟨_, rfl⟩
    have hpi : (n : Int) + 1 = (p0 : Int) := by omega
    have hsl2 : ∀ w, Sem.run Try.prog (Instr.slice 22 (.slice (some ⟨g, 0, none⟩) N c3) (some (.int .i64 ((n : Int) + 1))) none none) w = .ok (.slice (cutA g p0 c3) (N - p0) (c3 - p0)) w := by
      intro w; rw [hpi]; exact slice_l g N c3 p0 (by omega) w
    have HPI := hid hpi
    have HP0 := hid hp0
    clear hpi hp0
    go_wp2_with fail
    rw [HPI.out]
    obtain ⟨s0, hs0⟩ : ∃ s0, s0 = p0 + (uv k.size).length := ⟨_, rfl⟩
    obtain ⟨e0, he0⟩ : ∃ e0, e0 = s0 + k.size := ⟨_, rfl⟩
    have hTK : T = (xs ++ [kd]) ++ (fld k ++ (if d then [] else fld t)) := by
      rw [HT.out, HKD.out]; cases d <;> simp [enc]
    have hxl : (xs ++ [kd]).length = p0 := by rw [List.length_append, HL.out, HP0.out]; rfl
    have hNe : N = e0 + (if d then ([] : List Int) else fld t).length := by
      rw [HN.out, hTK, List.length_append, hxl, List.length_append, fld_len, he0, hs0]; omega
    obtain ⟨q1, q2⟩ := field_at (xs ++ [kd]) (if d then [] else fld t) k p0 hxl
    rw [← hTK] at q1 q2
    rw [← hs0] at q2
    have hNe1 : e0 ≤ N := by omega
    have Q2 := hid q2
    have HS0 := hid hs0
    have HE0 := hid he0
    have HTK := hid hTK
    have HNE := hid hNe
    have hup := uv_pos k.size
    have hp0s : p0 < s0 := by omega
    have hse : s0 ≤ e0 := by omega
    clear q2 hTK hNe hsl2
    refine (zzfield_full _ (N - p0) _ p0 N s0 e0 (fun q => T.getD (p0 + q) 0) k.size _ (row_cut HR4.out hNc (by omega)) q1 (by omega) (by omega) (by omega) (by omega) (by omega) HS0.out HE0.out).mono ?_
    rintro e w5 ⟨rfl, hb5⟩
    have HR5 := hid (HR4.out.later hb5)
    have hb15 : Below w'.heap.size w' w5 := hb14.trans (hb5.mono hb14.size)
    clear hb5 hb14 HR4 q1 hxl hcn hs0 he0
    have hsl3 : ∀ w, Sem.run Try.prog (Instr.slice 22 (.slice (some ⟨g, 0, none⟩) N c3) (some (.int .i64 s0)) (some (.int .i64 e0)) none) w = .ok (.slice (cutA g s0 c3) k.size (c3 - s0)) w := by
      intro w; rw [slice_lh g N c3 s0 e0 hse (by omega) w, show e0 - s0 = k.size from by have := HE0.out; omega]
    go_wp2_with fail
    have hk3 : Row w5 (cutA g s0 c3) k.size (fun q => .int .u8 ((sb k).getD q 0)) := by
      rcases row_cut (m := k.size) (l := s0) HR5.out hNc (by have := HE0.out; omega) with h | ⟨b, o, h1, h2⟩
      · exact Or.inl h
      · refine Or.inr ⟨b, o, h1, fun q hq => ?_⟩
        have := h2 q hq
        simp only [Q2.out q hq] at this
        exact this
    refine (bytesEqualString_any _ _ k _ hk3 hk).mono ?_
    rintro e w6 ⟨rfl, hb6⟩
    have HR6 := hid (HR5.out.later hb6)
    have hb16 : Below w'.heap.size w' w6 := hb15.trans (hb6.mono hb15.size)
    clear hb6 hb15 HR5 hk3 hsl3 Q2
    go_upto_if 126 with fail
    go_cut [16, 18] (fun e l wx => e = .int .i64 N ∧ Last T N l ∧ Row wx (some ⟨g, 0, none⟩) N (fun k => .int .u8 (T.getD k 0)) ∧ Below w'.heap.size w' wx)
    case first =>
      have hNE := HNE.out
      have hTK := HTK.out
      cases d with
      | true =>
        simp only [if_true, List.length_nil] at hNE
        have hNe : N = e0 := by omega
        have hLast : Last T N (.int .i64 p0) := by
          refine ⟨p0, k.size, rfl, by omega, by have := HS0.out; have := HE0.out; omega, ?_⟩
          rw [hTK]
          exact (field_at (xs ++ [kd]) _ k p0 (by rw [List.length_append, HL.out, HP0.out]; rfl)).1
        have HLA := hid hLast
        have HNEE : Hid (Value.int .i64 (e0 : Int) = .int .i64 N) := by show _ = _; rw [hNe]
        clear hNE hTK hNe hLast
        go_wp2_with fail
        go_meet
        exact ⟨HNEE.out, HLA.out, HR6.out, hb16⟩
      | false =>
        simp only [if_neg (show ¬ (false = true) by simp)] at hNE hTK
        rw [fld_len] at hNE
        have hTV : T = (xs ++ [kd] ++ fld k) ++ (fld t ++ []) := by rw [hTK]; simp
        have hxl : (xs ++ [kd] ++ fld k).length = e0 := by
          rw [List.length_append, List.length_append, HL.out, fld_len]; have := HP0.out; have := HS0.out; have := HE0.out; simp; omega
        obtain ⟨q1, q2⟩ := field_at (xs ++ [kd] ++ fld k) [] t e0 hxl
        rw [← hTV] at q1 q2
        obtain ⟨s2, hs2'⟩ : ∃ s2, s2 = e0 + (uv t.size).length := ⟨_, rfl⟩
        rw [← hs2'] at q2
        have hNs : N = s2 + t.size := by omega
        have hut := uv_pos t.size
        have hes2 : e0 < s2 := by omega
        have hs2N : s2 ≤ N := by omega
        have HLA : Hid (Last T N (.int .i64 e0)) := ⟨e0, t.size, rfl, by omega, by omega, q1⟩
        have Q1 := hid q1
        have Q2 := hid q2
        have HS2 := hid hs2'
        have HNS := hid hNs
        clear hNE hTK hTV hxl q1 q2 hs2' hNs
        have hsl4 := fun w => slice_l g N c3 e0 hNe1 w
        go_wp2_with fail
        refine (zzfield_full _ (N - e0) _ e0 N s2 N (fun q => T.getD (e0 + q) 0) t.size _ (row_cut HR6.out hNc (by omega)) Q1.out (by omega) (by omega) (by omega) (by omega) (by have := HS2.out; have := HNS.out; omega) HS2.out HNS.out).mono ?_
        rintro e w7 ⟨rfl, hb7⟩
        have HR7 := hid (HR6.out.later hb7)
        have hb17 : Below w'.heap.size w' w7 := hb16.trans (hb7.mono hb16.size)
        clear hb7 hb16 HR6 Q1 hsl4
        have hsl5 : ∀ w, Sem.run Try.prog (Instr.slice 22 (.slice (some ⟨g, 0, none⟩) N c3) (some (.int .i64 s2)) (some (.int .i64 N)) none) w = .ok (.slice (cutA g s2 c3) t.size (c3 - s2)) w := by
          intro w; rw [slice_lh g N c3 s2 N hs2N hNc w, show N - s2 = t.size from by have := HNS.out; omega]
        go_wp2_with fail
        have hk3 : Row w7 (cutA g s2 c3) t.size (fun q => .int .u8 ((sb t).getD q 0)) := by
          rcases row_cut (m := t.size) (l := s2) HR7.out hNc (by have := HNS.out; omega) with h | ⟨b, o, h1, h2⟩
          · exact Or.inl h
          · refine Or.inr ⟨b, o, h1, fun q hq => ?_⟩
            have := h2 q hq
            simp only [Q2.out q hq] at this
            exact this
        refine (bytesEqualString_any _ _ t _ hk3 ht).mono ?_
        rintro e w8 ⟨rfl, hb8⟩
        have HR8 := hid (HR7.out.later hb8)
        have hb18 : Below w'.heap.size w' w8 := hb17.trans (hb8.mono hb17.size)
        clear hb8 hb17 HR7 hk3 hsl5 Q2
        go_wp2_with fail
        go_meet
        exact ⟨rfl, HLA.out, HR8.out, hb18⟩
    case rest =>
    obtain ⟨rfl, ⟨L, x, rfl, hx, hLN, hLq⟩, hRc, hbc⟩ := hcut
    have HRc := hid hRc
    have HLq := hid hLq
    have hNN : ((N : Int) != (N : Int)) = false := by simp
    have hux := uv_pos x
    have hLN' : L ≤ N := by omega
    have HLN := hid hLN
    clear hRc hLq hLN HTK HNE HT HN
    go_wp2
    go_loopw [22] (fun s wr => ∃ c : Nat, L ≤ c ∧ c ≤ N ∧ s = .int .i64 c ∧ Row wr (some ⟨g, 0, none⟩) N (fun k => .int .u8 (T.getD k 0)) ∧ Below w'.heap.size w' wr) (fun s _ => N - (intOf s).toNat)
    case atStart => exact ⟨L, Nat.le_refl _, hLN', rfl, HRc.out, hbc⟩
    case round =>
      clear hbc
      obtain ⟨c, hc1, hc2, rfl, hRr, hbr⟩ := hrel
      have HRr := hid hRr
      clear hRr
      by_cases hlt : c < N
      · have hsl6 := fun w => slice_lh g N c3 L c hc1 (by omega) w
        go_wp2_with fail
        refine (zzfield_cut _ (c - L) _ L c (fun q => T.getD (L + q) 0) x _ (row_cut HRr.out hNc (by omega)) HLq.out hx (by omega) (by omega) (by omega) (by have := HLN.out; omega)).mono ?_
        rintro e w9 ⟨rfl, hb9⟩
        have HR9 := hid (HRr.out.later hb9)
        have HB9 := hid (hbr.trans (hb9.mono hbr.size))
        clear hb9 hbr HRr hsl6
        go_wp2
        go_roundw
        case rel => exact ⟨c + 1, by omega, by omega, by go_num, HR9.out, HB9.out⟩
        case measure => simp [intOf]; omega
      · obtain rfl : c = N := by omega
        go_wp2
        go_ret
        exact ⟨rfl, hbr⟩
end Go.Proofs.Qxb6003783a.Fld
