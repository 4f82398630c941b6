import Derived.Test.Qxb6003707aMag
import Derived.Test.Qxb6003707aStrPlain
import Derived.WalkSpells
import Derived.Deep.QuietTactic
import Derived.BigQuiet
namespace Go.Proofs.Qxb6003707a.Str
open Go.RowKit fnMagnitudeEvenAndMonotone
set_option linter.unusedVariables false

/-- Block g is a row of 21 bytes that may be written; from p on it holds L. -/
structure Buf (g : Nat) (w : World) (p : Nat) (L : List Int) : Prop where
  len : p + L.length = 21
  there : ∀ j, j < 21 → ∃ v : Int, w.cell? ⟨g, j, none⟩ = some (.int .u8 v)
  free : ∀ j, j < 21 → w.frozen? ⟨g, j, none⟩ = false
  held : ∀ j, j < L.length → w.cell? ⟨g, p + j, none⟩ = some (.int .u8 (L.getD j 0))

theorem Buf.put {g : Nat} {w : World} {p : Nat} {L : List Int} (h : Buf g w p L) (hp : 0 < p) (x : Int) : Buf g (w.setCell ⟨g, p - 1, none⟩ (.int .u8 x)) (p - 1) (x :: L) := by
  have hl := h.len
  have hs : ∃ v : Int, w.cell? ⟨g, p - 1, none⟩ = some (.int .u8 v) := h.there _ (by omega)
  obtain ⟨v0, hv0⟩ := hs
  refine ⟨by simp; omega, ?_, ?_, ?_⟩
  · intro j hj
    by_cases e : j = p - 1
    · subst e; exact ⟨x, World.cell?_setCell_same _ _ _ hv0⟩
    · obtain ⟨v, hv⟩ := h.there j hj
      exact ⟨v, by rw [World.cell?_setCell_other _ _ _ _ (by intro e2; injection e2 with _ e3 _; omega)]; exact hv⟩
  · intro j hj
    rw [World.frozen?_setCell]; exact h.free j hj
  · intro j hj
    cases j with
    | zero => simpa using World.cell?_setCell_same _ _ _ hv0
    | succ j =>
      have := h.held j (by simpa using hj)
      rw [World.cell?_setCell_other _ _ _ _ (by intro e2; injection e2 with _ e3 _; omega), show p - 1 + (j + 1) = p + j from by omega, this]
      simp

/-- The whole text of the Decimal c at the scale sc. -/
def text (c sc : Int) : List Int := if c < 0 then 45 :: body (mag c) sc else body (mag c) sc
theorem text_neg {c sc : Int} (h : c < 0) : text c sc = 45 :: body (mag c) sc := if_pos h
theorem text_pos {c sc : Int} (h : 0 ≤ c) : text c sc = body (mag c) sc := if_neg (by omega)
theorem ret_str {a b : List Int} (h : a = b) : Ending.returned (.string (strOfNums a)) = .returned (.string (strOfNums b)) := by rw [h]

theorem Buf.text {g : Nat} {w : World} {p : Nat} {L : List Int} (h : Buf g w p L) :
    (convert 44 9 (.slice (some ⟨g, p, none⟩) (21 - p) (21 - p))).run Try.prog w = .ok (.string (strOfNums L)) w :=
  run_convert_bytes_arg w 44 5 Try.underlying44 Try.underlying5 g p (21 - p) (21 - p) L (by have := h.len; omega) (fun i hi => h.held i (by have := h.len; omega)) 9 Try.underlying9

theorem slice_buf (g p : Nat) (l : Int) (hl : l = p) (h1 : p ≤ 20) (w : World) :
    Sem.run Try.prog (Instr.sliceAt 53 (.pointer (some ⟨g, 0, none⟩)) (some (.int .i64 l)) none none) w = .ok (.slice (some ⟨g, p, none⟩) (21 - p) (21 - p)) w := by
  subst hl
  have ha : Try.prog.arrayLen 53 = 21 := by kernel_rfl
  have he : Try.prog.elem 53 = 5 := by kernel_rfl
  have hz : Sem.run Try.prog (sizeOf 5) w = .ok 1 w := by kernel_rfl
  rw [run_sliceAt_array_l w 53 _ (by rw [ha, he]; exact Try.underlying53) .i64 p (by omega) (by rw [ha]; omega), ha, he, hz]
  simp [Result.andThen, slicedAt, Addr.add]
  rw [if_neg (by omega)]
  split <;> simp_all

theorem buf_new (w : World) (o : Obj) : Buf (w.heap.size + 1) ((w.alloc o).alloc (.cells #[.int .u8 0, .int .u8 0, .int .u8 0, .int .u8 0, .int .u8 0, .int .u8 0, .int .u8 0, .int .u8 0, .int .u8 0, .int .u8 0, .int .u8 0, .int .u8 0, .int .u8 0, .int .u8 0, .int .u8 0, .int .u8 0, .int .u8 0, .int .u8 0, .int .u8 0, .int .u8 0, .int .u8 0] 53)) 21 [] := by
  refine ⟨rfl, ?_, ?_, ?_⟩
  · intro j hj
    refine ⟨0, ?_⟩
    rw [World.cell?_alloc2_new]
    show (Array.replicate 21 (Value.int .u8 0))[j]? = _
    rw [Array.getElem?_replicate, if_pos hj]
  · intro j hj
    exact World.frozen?_alloc2_new _ _ _ _
  · intro j hj; simp at hj

set_option maxHeartbeats 1600000 in
theorem string_any (c sc : Int) (w : World) (h0 : -1000000000000000000 < c) (h1 : c < 1000000000000000000) (s0 : 0 ≤ sc) (s1 : sc ≤ 18) :
    Calls Try.prog 8 #[.agg #[.int .i64 c, .int .i8 sc]] w fun e w' => e = .returned (.string (strOfNums (text c sc))) ∧ Below w.heap.size w w' := by
  have hsm : Small 0 (mag c) := by unfold Small mag; omega
  have hm0 : 0 ≤ mag c := by unfold mag; omega
  have hm1 : mag c < 1000000000000000000 := by unfold mag; omega
  go_enter Try.func8, Try.ntmps8
  go_wp2_with (go_at_call 31; refine (magnitude_any _ _ (by omega) (by omega)).mono ?_; rintro e w' ⟨rfl, rfl⟩)
  go_loopw [4, 5, 6] (fun i m n wr => ∃ (k : Nat) (x : Int) (p : Nat) (L : List Int), k ≤ 19 ∧ 0 ≤ x ∧ x < 1000000000000000000 ∧ Small k x ∧ n = .int .i64 k ∧ m = .int .u64 x ∧ i = .int .i64 p ∧
      Buf (w.heap.size + 1) wr p L ∧ 20 ≤ p + k ∧ p + k ≤ 21 ∧ ((k : Int) ≤ sc → 21 ≤ p + k) ∧ Hid (G (19 - k) sc k x L = body (mag c) sc) ∧ Below (w.heap.size + 1) (w.alloc (.cells #[.int .i64 c, .int .i8 sc] 25)) wr)
    (fun _ _ n _ => 19 - (intOf n).toNat)
  case atStart =>
    exact ⟨0, mag c, 21, [], by omega, hm0, hm1, hsm, rfl, rfl, rfl, buf_new _ _, by omega, by omega, by omega, rfl, (Below.refl _ _).alloc (by simp) _⟩
  case round =>
    obtain ⟨k, x, p, L, hk, hx, hx1, hsx, rfl, rfl, rfl, hbuf, hp1, hpu, hp2, hG, hb⟩ := hrel
    have hpl := hbuf.len
    have hc0 : wr.cell? ⟨w.heap.size, 0, none⟩ = some (.int .i64 c) := (hb.cell (p := ⟨w.heap.size, 0, none⟩) (by simp)).trans (by simp)
    have hc1 : wr.cell? ⟨w.heap.size, 1, none⟩ = some (.int .i8 sc) := (hb.cell (p := ⟨w.heap.size, 1, none⟩) (by simp)).trans (by simp)
    have hss := hsx.step hx
    have hlt := fun h => hsx.lt h
    by_cases hks : (k : Int) ≤ sc
    · have hp3 := hp2 hks
      obtain ⟨v1, hv1⟩ := hbuf.there (p - 1) (by omega)
      obtain ⟨v2, hv2⟩ := hbuf.there (p - 1 - 1) (by omega)
      have hf1 := hbuf.free (p - 1) (by omega)
      have hf2 := hbuf.free (p - 1 - 1) (by omega)
      by_cases hpt : (k : Int) = sc ∧ 0 < k
      · obtain ⟨he, hk0⟩ := hpt
        have hq : ((k : Int) == sc) = true := by simpa using he
        have hle : sc ≤ (k : Int) := by omega
        have hG' : Hid (G (19 - (k + 1)) sc (k + 1 : Nat) (x / 10) ((48 + x % 10) :: 46 :: L) = body (mag c) sc) := by
          have := G_point (19 - (k + 1)) sc k x L he (by omega)
          rw [show 19 - (k + 1) + 1 = 19 - k from by omega] at this
          show _ = _
          rw [show (((k + 1 : Nat)) : Int) = (k : Int) + 1 from by omega, ← this]; exact hG.out
        have B2 := (hbuf.put (by omega) 46).put (by omega) (48 + x % 10)
        have hb2 := (hb.setCell (p := ⟨w.heap.size + 1, p - 1, none⟩) (by simp) (.int .u8 46)).setCell (p := ⟨w.heap.size + 1, p - 1 - 1, none⟩) (by simp) (.int .u8 (48 + x % 10))
        clear hp2 he hbuf hb hG
        go_wp2
        go_roundw
        case rel =>
          exact ⟨k + 1, x / 10, p - 1 - 1, _, by omega, by omega, by omega, hss, by go_num, rfl, by go_num, B2, by omega, by omega, by omega, hG', hb2⟩
        case measure => simp [intOf]; omega
      · have hG' : Hid (G (19 - (k + 1)) sc (k + 1 : Nat) (x / 10) ((48 + x % 10) :: L) = body (mag c) sc) := by
          have := G_go (19 - (k + 1)) sc k x L (Or.inl hks) (fun h => hpt ⟨h.1, by omega⟩)
          rw [show 19 - (k + 1) + 1 = 19 - k from by omega] at this
          show _ = _
          rw [show (((k + 1 : Nat)) : Int) = (k : Int) + 1 from by omega, ← this]; exact hG.out
        have B2 := hbuf.put (by omega) (48 + x % 10)
        have hb2 := hb.setCell (p := ⟨w.heap.size + 1, p - 1, none⟩) (by simp) (.int .u8 (48 + x % 10))
        clear hp2 hbuf hb hG
        by_cases hlt2 : (k : Int) < sc
        · have hq : ((k : Int) == sc) = false := by simp; omega
          clear hpt
          go_wp2
          go_roundw
          case rel =>
            exact ⟨k + 1, x / 10, p - 1, _, by omega, by omega, by omega, hss, by go_num, rfl, by go_num, B2, by omega, by omega, by omega, hG', hb2⟩
          case measure => simp [intOf]; omega
        · obtain rfl : k = 0 := by omega
          obtain rfl : sc = 0 := by omega
          clear hpt
          go_wp2
          go_roundw
          case rel =>
            exact ⟨1, x / 10, p - 1, _, by omega, by omega, by omega, hss, by go_num, rfl, by go_num, B2, by omega, by omega, by omega, hG', hb2⟩
          case measure => simp [intOf]
    · by_cases hx0 : 0 < x
      · have hk18 := hlt hx0
        have hq : ((k : Int) == sc) = false := by simp; omega
        obtain ⟨v1, hv1⟩ := hbuf.there (p - 1) (by omega)
        have hf1 := hbuf.free (p - 1) (by omega)
        have hG' : Hid (G (19 - (k + 1)) sc (k + 1 : Nat) (x / 10) ((48 + x % 10) :: L) = body (mag c) sc) := by
          have := G_go (19 - (k + 1)) sc k x L (Or.inr hx0) (fun h => by omega)
          rw [show 19 - (k + 1) + 1 = 19 - k from by omega] at this
          show _ = _
          rw [show (((k + 1 : Nat)) : Int) = (k : Int) + 1 from by omega, ← this]; exact hG.out
        have B2 := hbuf.put (by omega) (48 + x % 10)
        have hb2 := hb.setCell (p := ⟨w.heap.size + 1, p - 1, none⟩) (by simp) (.int .u8 (48 + x % 10))
        clear hp2 hbuf hb hG
        go_wp2
        go_roundw
        case rel =>
          exact ⟨k + 1, x / 10, p - 1, _, by omega, by omega, by omega, hss, by go_num, rfl, by go_num, B2, by omega, by omega, by omega, hG', hb2⟩
        case measure => simp [intOf]; omega
      · obtain ⟨v1, hv1⟩ := hbuf.there (p - 1) (by omega)
        have hf1 := hbuf.free (p - 1) (by omega)
        have hL : Hid (L = body (mag c) sc) := by
          have := hG.out
          rw [G_stop _ _ _ _ _ (by omega)] at this
          exact this
        by_cases hc : c < 0
        · have B2 := hbuf.put (by omega) 45
          have hb2 : Hid (Below w.heap.size w (wr.setCell ⟨w.heap.size + 1, p - 1, none⟩ (.int .u8 45))) := (((Below.refl _ _).alloc (Nat.le_refl _) _).trans (hb.mono (by omega))).setCell (by simp) _
          have ht := B2.text
          have hs := slice_buf (w.heap.size + 1) (p - 1) ((p : Int) - 1) (by omega) (by omega)
          clear hbuf hb hG hp2 B2
          go_wp2
          go_ret
          exact ⟨ret_str (by rw [hL.out]; exact (text_neg hc).symm), hb2.out⟩
        · have hb2 : Hid (Below w.heap.size w wr) := ((Below.refl _ _).alloc (Nat.le_refl _) _).trans (hb.mono (by omega))
          have ht := hbuf.text
          have hp20 : p ≤ 20 := by omega
          have hs := slice_buf (w.heap.size + 1) p (p : Int) rfl (by omega)
          clear hbuf hb hG hp2
          go_wp2
          go_ret
          exact ⟨ret_str (by rw [hL.out]; exact (text_pos (by omega)).symm), hb2.out⟩
end Go.Proofs.Qxb6003707a.Str
