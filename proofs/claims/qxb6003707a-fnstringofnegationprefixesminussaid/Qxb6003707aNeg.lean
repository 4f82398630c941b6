import Derived.Test.Qxb6003707aStr
import Derived.Deep.RegionWith
namespace Go.Proofs.Qxb6003707a.Str
open Go.RowKit fnMagnitudeEvenAndMonotone
set_option linter.unusedVariables false

set_option maxHeartbeats 400000 in
theorem signed_pos (q sc : Int) (w : World) (h0 : 0 ≤ q) (h1 : q < 1000000000000000000) (s0 : 0 ≤ sc) (s1 : sc ≤ 18) :
    Calls Try.prog 30 #[.int .u64 q, .bool false, .int .i64 sc] w fun e w' => e = .returned (.agg #[.int .i64 q, .int .i8 sc]) ∧ Below w.heap.size w w' := by
  go_enter Try.func30, Try.ntmps30
  go_wp2
  exact bodyPost_ret (v := .agg #[.int .i64 q, .int .i8 sc]) (by simp [results, Try.results30, go_sem]) rfl ⟨rfl, (Below.refl _ _).alloc (Nat.le_refl _) _⟩
set_option maxHeartbeats 400000 in
theorem signed_neg (q sc : Int) (w : World) (h0 : 0 ≤ q) (h1 : q < 1000000000000000000) (s0 : 0 ≤ sc) (s1 : sc ≤ 18) :
    Calls Try.prog 30 #[.int .u64 q, .bool true, .int .i64 sc] w fun e w' => e = .returned (.agg #[.int .i64 (-q), .int .i8 sc]) ∧ Below w.heap.size w w' := by
  go_enter Try.func30, Try.ntmps30
  go_wp2
  exact bodyPost_ret (v := .agg #[.int .i64 (-q), .int .i8 sc]) (by simp [results, Try.results30, go_sem]) rfl ⟨rfl, (Below.refl _ _).alloc (Nat.le_refl _) _⟩
theorem bcell {W w1 : World} (hb : Below W.heap.size W w1) : (∀ b o, b < W.heap.size → w1.cell? ⟨b, o, none⟩ = W.cell? ⟨b, o, none⟩) ∧ (∀ b o, b < W.heap.size → w1.frozen? ⟨b, o, none⟩ = W.frozen? ⟨b, o, none⟩) :=
  ⟨fun b o h => hb.cell (p := ⟨b, o, none⟩) h, fun b o h => hb.frozen (p := ⟨b, o, none⟩) h⟩
set_option maxHeartbeats 400000 in
theorem zzsigned_pos (q sc : Int) (w : World) (h0 : 0 ≤ q) (h1 : q < 1000000000000000000) (s0 : 0 ≤ sc) (s1 : sc ≤ 18) :
    Calls Try.prog 7 #[.int .u64 q, .bool false, .int .i64 sc] w fun e w' => e = .returned (.agg #[.int .i64 q, .int .i8 sc]) ∧ Below w.heap.size w w' := by
  go_enter Try.func7, Try.ntmps7
  go_wp2_with (go_at_call 30; refine (signed_pos _ _ _ h0 h1 s0 s1).mono ?_; rintro e w1 ⟨rfl, hb⟩; obtain ⟨hc, hf⟩ := bcell hb; have hz : w.heap.size < w1.heap.size := (by have := hb.size; simp at this; omega))
  refine bodyPost_ret (v := .agg #[.int .i64 q, .int .i8 sc]) (by simp [results, Try.results7, go_sem, hc]) rfl ⟨rfl, ?_⟩
  exact ((((Below.refl _ _).alloc (Nat.le_refl _) _).trans (hb.mono (by simp))).setCell (by simp) _).setCell (by simp) _
set_option maxHeartbeats 400000 in
theorem zzsigned_neg (q sc : Int) (w : World) (h0 : 0 ≤ q) (h1 : q < 1000000000000000000) (s0 : 0 ≤ sc) (s1 : sc ≤ 18) :
    Calls Try.prog 7 #[.int .u64 q, .bool true, .int .i64 sc] w fun e w' => e = .returned (.agg #[.int .i64 (-q), .int .i8 sc]) ∧ Below w.heap.size w w' := by
  go_enter Try.func7, Try.ntmps7
  go_wp2_with (go_at_call 30; refine (signed_neg _ _ _ h0 h1 s0 s1).mono ?_; rintro e w1 ⟨rfl, hb⟩; obtain ⟨hc, hf⟩ := bcell hb; have hz : w.heap.size < w1.heap.size := (by have := hb.size; simp at this; omega))
  refine bodyPost_ret (v := .agg #[.int .i64 (-q), .int .i8 sc]) (by simp [results, Try.results7, go_sem, hc]) rfl ⟨rfl, ?_⟩
  exact ((((Below.refl _ _).alloc (Nat.le_refl _) _).trans (hb.mono (by simp))).setCell (by simp) _).setCell (by simp) _
def sgn (c : Int) : Int := if c < 0 then -1 else if 0 < c then 1 else 0
theorem sgn_neg {c : Int} (h : c < 0) : sgn c = -1 := if_pos h
theorem sgn_pos {c : Int} (h : 0 < c) : sgn c = 1 := by unfold sgn; rw [if_neg (by omega), if_pos h]
theorem sgn_zero : sgn 0 = 0 := rfl
theorem sign_any (c sc : Int) (w : World) :
    Calls Try.prog 9 #[.agg #[.int .i64 c, .int .i8 sc]] w fun e w' => e = .returned (.int .i64 (sgn c)) ∧ w' = w.alloc (.cells #[.int .i64 c, .int .i8 sc] 25) := by
  rcases Int.lt_trichotomy c 0 with h | h | h
  · have e : Hid (sgn c = -1) := sgn_neg h
    go_enter Try.func9, Try.ntmps9
    go_wp2
    go_ret
    exact ⟨ret_int e.out.symm, rfl⟩
  · subst h
    go_enter Try.func9, Try.ntmps9
    go_wp2
    go_ret
    exact ⟨rfl, rfl⟩
  · have e : Hid (sgn c = 1) := sgn_pos h
    go_enter Try.func9, Try.ntmps9
    go_wp2
    go_ret
    exact ⟨ret_int e.out.symm, rfl⟩

theorem G_len : ∀ (f : Nat) (sc n m : Int) (L : List Int), (G f sc n m L).length ≤ L.length + 2 * f
  | 0, _, _, _, L => by simp [G]
  | f + 1, sc, n, m, L => by
    rw [G]
    split
    · refine Nat.le_trans (G_len f _ _ _ _) ?_
      split <;> simp <;> omega
    · omega
theorem body_len (m sc : Int) : (body m sc).length ≤ 38 := by
  have := G_len 19 sc 0 m []
  simpa [body] using this
theorem add_minus (B : List Int) (h : B.length ≤ 38) (w : World) : Sem.run Try.prog (Op.stringOp .add ⟨#[45]⟩ (strOfNums B)) w = .ok (.string (strOfNums (45 :: B))) w := by
  rw [run_string_add_sum w _ _ (by rw [strOfNums_size]; show 1 + B.length ≤ _; omega)]
  congr 2
theorem mag_even (q : Int) : mag (-q) = mag q := by unfold mag; omega

set_option maxHeartbeats 400000 in
theorem law (q sc : Int) (w : World) (h0 : 0 ≤ q) (h1 : q < 1000000000000000000) (s0 : 0 ≤ sc) (s1 : sc ≤ 18) :
    Calls Try.prog 3 #[.int .u64 q, .int .i8 sc] w fun e w' => e = .returned (.bool true) ∧ Below w.heap.size w w' := by
  go_enter Try.func3, Try.ntmps3
  go_wp2_with fail
  refine (zzsigned_pos _ _ _ h0 h1 s0 s1).mono ?_
  rintro e w1 ⟨rfl, hb1⟩
  go_wp2_with fail
  refine (zzsigned_neg _ _ _ h0 h1 s0 s1).mono ?_
  rintro e w2 ⟨rfl, hb2⟩
  obtain ⟨hc2, hf2⟩ := bcell hb2
  have hz2 : w1.heap.size < w2.heap.size := by have := hb2.size; simp at this; omega
  go_wp2_with fail
  refine (string_any _ _ _ (by omega) h1 s0 s1).mono ?_
  rintro e w3 ⟨rfl, hb3⟩
  obtain ⟨hc3, hf3⟩ := bcell hb3
  have hz3 : w2.heap.size < w3.heap.size := by have := hb3.size; simp at this; omega
  go_wp2_with fail
  refine (string_any _ _ _ (by omega) (by omega) s0 s1).mono ?_
  rintro e w4 ⟨rfl, hb4⟩
  have hz4 : w3.heap.size ≤ w4.heap.size := hb4.size
  have hcell : ∀ (b o : Nat) v, b < w3.heap.size → w3.cell? ⟨b, o, none⟩ = some v → w4.cell? ⟨b, o, none⟩ = some v := fun b o v hb h => (hb4.cell (p := ⟨b, o, none⟩) hb).trans h
  have hn0 : w4.cell? ⟨w2.heap.size, 0, none⟩ = some (.int .i64 (-q)) := hcell _ _ _ hz3 (by rw [hc3 _ _ (by simp)]; simp)
  have hn1 : w4.cell? ⟨w2.heap.size, 1, none⟩ = some (.int .i8 sc) := hcell _ _ _ hz3 (by rw [hc3 _ _ (by simp)]; simp)
  have hp0 : w4.cell? ⟨w1.heap.size, 0, none⟩ = some (.int .i64 q) := hcell _ _ _ (by omega) (by rw [hc3 _ _ (by simp; omega), World.cell?_alloc_past _ _ _ hz2, hc2 _ _ (by simp)]; simp)
  have hp1 : w4.cell? ⟨w1.heap.size, 1, none⟩ = some (.int .i8 sc) := hcell _ _ _ (by omega) (by rw [hc3 _ _ (by simp; omega), World.cell?_alloc_past _ _ _ hz2, hc2 _ _ (by simp)]; simp)
  have hbel : Below w.heap.size w w4 := (((hb1.alloc hb1.size _).trans (hb2.mono (by have := hb1.size; simp; omega))).alloc (by have := hb1.size; omega) _).trans (((hb3.mono (by have := hb1.size; simp; omega)).trans (hb4.mono (by have := hb1.size; omega))))
  have HB : Hid (Below w.heap.size w w4) := hbel
  clear hf2 hf3 hc2 hc3 hcell hbel hb1 hb2 hb3 hb4
  by_cases hq : q = 0
  · subst hq
    simp only [Int.neg_zero] at hn0
    go_wp2
    go_ret
    exact ⟨rfl, HB.out⟩
  · have hqf : (q == 0) = false := by simpa using hq
    have hs1 := sgn_neg (c := -q) (by omega)
    have hs2 := sgn_pos (c := q) (by omega)
    rw [text_neg (c := -q) (by omega), text_pos h0, mag_even]
    have hlen := body_len (mag q) sc
    generalize body (mag q) sc = B at hlen
    have hadd := add_minus B hlen
    have h14 : w1.heap.size < w4.heap.size := by omega
    have h24 : w2.heap.size < w4.heap.size := by omega
    go_wp2
    go_region_with (go_at_call 9; refine (sign_any _ _ _).mono ?_; rintro e w' ⟨rfl, rfl⟩)
    all_goals go_wp2
    all_goals go_ret
    all_goals (refine ⟨rfl, ?_⟩; have hsz := HB.out.size)
    all_goals exact (((HB.out.alloc hsz _).alloc (by simp; omega) _).drew)
end Go.Proofs.Qxb6003707a.Str
