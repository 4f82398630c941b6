import Derived.Test.Qxb6003707aOfdF
namespace Go.Proofs.Qxb6003707a.Ofd
open Go.RowKit
set_option linter.unusedVariables false

theorem conv_text {w : World} {ρ : Option Nat} {m : Nat} {ta : Option Addr} {B : List Int} (h : Txt w ρ m ta B m) (hB : B.length = m) (hta : ta = none ∨ ∃ g, ta = some ⟨g, 0, none⟩) :
    Sem.run Try.prog (convert 44 9 (.slice ta m m)) w = .ok (.string (strOfNums B)) w := by
  rcases h with h0 | ⟨gt, tarr, _, rfl, h3, h4, h5⟩
  · subst h0
    obtain rfl : B = [] := List.length_eq_zero_iff.mp hB
    rcases hta with rfl | ⟨g, rfl⟩
    · exact run_convert_bytes_nil w 44 5 Try.underlying44 Try.underlying5 0 0 9 Try.underlying9
    · exact run_convert_bytes_arg w 44 5 Try.underlying44 Try.underlying5 g 0 0 0 [] rfl (fun i hi => by omega) 9 Try.underlying9
  · exact run_convert_bytes_arg w 44 5 Try.underlying44 Try.underlying5 gt 0 m m B hB (fun i hi => by rw [Nat.zero_add]; exact cell_at h3 (h5 i hi)) 9 Try.underlying9

set_option maxHeartbeats 400000 in
theorem recString_any (x : Int) (l m : Nat) (ρ : Option Nat) (ta : Option Addr) (B : List Int) (w : World) (h : Txt w ρ m ta B m) (hB : B.length = m) (hta : ta = none ∨ ∃ g, ta = some ⟨g, 0, none⟩) :
    Calls Try.prog 26 #[.agg #[.int .i64 x, .pointer (some ⟨l, 0, none⟩), .slice ta m m]] w fun e w' => e = .returned (.string (strOfNums B)) ∧ Below w.heap.size w w' ∧ w.grownBy w' none := by
  have hc := fun o => conv_text (w := w.alloc o) (h.kept (fun g e hlt => heap_alloc_lt _ _ hlt)) hB hta
  clear h
  go_enter Try.func26, Try.ntmps26
  go_wp2
  go_ret
  exact ⟨rfl, (Below.refl _ _).alloc (Nat.le_refl _) _, grown_alloc _ _ _⟩

set_option maxHeartbeats 400000 in
theorem recordOf_any (l m : Nat) (ta : Option Addr) (w : World) :
    Calls Try.prog 24 #[.pointer (some ⟨l, 0, none⟩), .slice ta m m] w fun e w' => e = .returned (.agg #[.int .i64 0, .pointer (some ⟨l, 0, none⟩), .slice ta m m]) ∧ Below w.heap.size w w' := by
  go_enter Try.func24, Try.ntmps24
  go_wp2
  exact bodyPost_ret (v := .agg #[.int .i64 0, .pointer (some ⟨l, 0, none⟩), .slice ta m m]) (by simp [results, Try.results24, go_sem]) rfl ⟨rfl, (Below.refl _ _).alloc (Nat.le_refl _) _⟩

set_option maxHeartbeats 800000 in
theorem newRecord_any (l gf gs n m : Nat) (ts : List ByteArray) (ws : List Int) (w : World) (hlen : ts.length = ws.length) (hwl : ws.length = n) (hn : n ≤ 1000) (hz : ∀ k, k < n → 0 ≤ ws.getD k 0 ∧ ws.getD k 0 ≤ 1000)
    (hm : m = psum ws n) (hlay : ∃ mp, w.heap[l]? = some (.cells #[.slice (some ⟨gf, 0, none⟩) n n, .slice (some ⟨gs, 0, none⟩) n n, mp, .int .i64 m] 61 (0, 0)))
    (hfi : ∃ arr, w.heap[gf]? = some (.cells arr 57 (0, 0)) ∧ Fields arr n (fun k => ts.getD k ByteArray.empty) (fun k => ws.getD k 0))
    (hst : ∃ sarr, w.heap[gs]? = some (.cells sarr 3 (0, 0)) ∧ ∀ j, j < n → sarr[j]? = some (.int .i64 (psum ws j))) :
    Calls Try.prog 27 #[.pointer (some ⟨l, 0, none⟩)] w fun e w' => ∃ gt, e = .returned (.agg #[.int .i64 0, .pointer (some ⟨l, 0, none⟩), .slice (some ⟨gt, 0, none⟩) m m]) ∧ Txt w' (some gt) m (some ⟨gt, 0, none⟩) (blank ts ws) m ∧ Below w.heap.size w w' := by
  have hm2 : m ≤ 1000000 := by have := psum_bound ws n hwl hz n (Nat.le_refl _); omega
  obtain ⟨mp, hl⟩ := hlay
  have l3 := cell_at hl (j := 3) rfl
  have xl := lt_of_heap hl
  have hmk := make_bytes m (by omega)
  have HREC : Hid (∀ w', Below w.heap.size w w' → ∀ r gt, w.heap.size ≤ r → w.heap.size ≤ gt → gt ≠ r → w'.heap[r]? = some (.cells #[.int .i64 0, .pointer (some ⟨l, 0, none⟩), .slice (some ⟨gt, 0, none⟩) m m] 48 (0, 0)) → gt < w'.heap.size →
      Rec w' r l gf gs n m (some gt) (some ⟨gt, 0, none⟩) ts ws) := by
    intro w' hb r gt h1 h2 h3 h4 h5
    obtain ⟨arr, q3, q3'⟩ := hfi
    obtain ⟨sarr, q4, q4'⟩ := hst
    refine ⟨hlen, hwl, hn, hz, hm, ⟨0, h4⟩, ⟨mp, (hb.block _ xl).trans hl⟩, ⟨arr, (hb.block _ (lt_of_heap q3)).trans q3, q3'⟩, ⟨sarr, (hb.block _ (lt_of_heap q4)).trans q4, q4'⟩, ?_, ?_, ?_, ?_, ?_⟩
    · simpa using h3
    · have := lt_of_heap hl; simp; omega
    · have := lt_of_heap q3; simp; omega
    · have := lt_of_heap q4; simp; omega
    · intro g e; cases e; exact h5
  clear hz hm hlen hwl hl hfi hst
  go_enter Try.func27, Try.ntmps27
  go_wp2_with fail
  have e0 : (((w.alloc (.cells #[.int .i64 0, .pointer none, .slice none 0 0] 48)).alloc (.cells (mk m fun x => .int .u8 0) 5)).alloc (.cells #[.int .i64 0, .pointer (some ⟨l, 0, none⟩), .slice (some ⟨w.heap.size + 1, 0, none⟩) m m] 48)).heap[w.heap.size]? = some (.cells #[.int .i64 0, .pointer none, .slice none 0 0] 48 (0, 0)) := by
    show (((w.heap.push _).push _).push _)[w.heap.size]? = _
    simp only [Array.getElem?_push, Array.size_push]; rw [if_neg (by omega), if_neg (by omega), if_pos trivial]
  have e1 : (((w.alloc (.cells #[.int .i64 0, .pointer none, .slice none 0 0] 48)).alloc (.cells (mk m fun x => .int .u8 0) 5)).alloc (.cells #[.int .i64 0, .pointer (some ⟨l, 0, none⟩), .slice (some ⟨w.heap.size + 1, 0, none⟩) m m] 48)).heap[w.heap.size + 1]? = some (.cells (mk m fun x => .int .u8 0) 5 (0, 0)) := by
    show (((w.heap.push _).push _).push _)[w.heap.size + 1]? = _
    simp only [Array.getElem?_push, Array.size_push]; rw [if_neg (by omega), if_pos trivial]
  have e2 : (((w.alloc (.cells #[.int .i64 0, .pointer none, .slice none 0 0] 48)).alloc (.cells (mk m fun x => .int .u8 0) 5)).alloc (.cells #[.int .i64 0, .pointer (some ⟨l, 0, none⟩), .slice (some ⟨w.heap.size + 1, 0, none⟩) m m] 48)).heap[w.heap.size + 1 + 1]? = some (.cells #[.int .i64 0, .pointer (some ⟨l, 0, none⟩), .slice (some ⟨w.heap.size + 1, 0, none⟩) m m] 48 (0, 0)) := by
    show (((w.heap.push _).push _).push _)[w.heap.size + 1 + 1]? = _
    simp only [Array.getElem?_push, Array.size_push]; rw [if_pos trivial]
  have hb0 : Below w.heap.size w (((w.alloc (.cells #[.int .i64 0, .pointer none, .slice none 0 0] 48)).alloc (.cells (mk m fun x => .int .u8 0) 5)).alloc (.cells #[.int .i64 0, .pointer (some ⟨l, 0, none⟩), .slice (some ⟨w.heap.size + 1, 0, none⟩) m m] 48)) :=
    (((Below.refl _ _).alloc (Nat.le_refl _) _).alloc (by simp) _).alloc (by simp; omega) _
  clear hmk l3
  generalize ((w.alloc (.cells #[.int .i64 0, .pointer none, .slice none 0 0] 48)).alloc (.cells (mk m fun x => .int .u8 0) 5)).alloc (.cells #[.int .i64 0, .pointer (some ⟨l, 0, none⟩), .slice (some ⟨w.heap.size + 1, 0, none⟩) m m] 48) = w0 at *
  have x1 := lt_of_heap e1
  refine (clear_any (w.heap.size + 1 + 1) l gf gs n m (some (w.heap.size + 1)) (some ⟨w.heap.size + 1, 0, none⟩) ts ws w0 (HREC.out w0 hb0 _ _ (by omega) (by omega) (by omega) e2 x1) (Or.inr ⟨_, _, rfl, rfl, e1, mk_size _ _, fun j hj => by omega⟩)).mono ?_
  rintro e w1 ⟨rfl, hg, htx⟩
  have p0 := (hg.block _ (lt_of_heap e0) (by simp)).trans e0
  have p2 := (hg.block _ (lt_of_heap e2) (by simp)).trans e2
  have r0 := cell_at p2 (j := 0) rfl
  have r1 := cell_at p2 (j := 1) rfl
  have r2 := cell_at p2 (j := 2) rfl
  have o0 := cell_at p0 (j := 0) rfl
  have o1 := cell_at p0 (j := 1) rfl
  have o2 := cell_at p0 (j := 2) rfl
  have f0 := free_at p0 0
  have f1 := free_at p0 1
  have f2 := free_at p0 2
  have hb1 : Below w.heap.size w w1 := hb0.grown hg hb0.size (fun k hk => by cases hk; omega)
  have HTX := hid htx
  have HB1 := hid hb1
  have HZ1 := lt_of_heap p0
  clear p0 p2 hg htx hb1 hb0 e0 e1 e2 HREC
  go_wp2
  refine bodyPost_ret (v := .agg #[.int .i64 0, .pointer (some ⟨l, 0, none⟩), .slice (some ⟨w.heap.size + 1, 0, none⟩) m m]) (by simp [results, Try.results27, go_sem, o0, o1, o2]) rfl ⟨w.heap.size + 1, rfl, ?_, ?_⟩
  · refine HTX.out.kept (fun g e hlt => ?_)
    cases e
    rw [heap_setCell_other _ _ _ _ (by simp), heap_setCell_other _ _ _ _ (by simp), heap_setCell_other _ _ _ _ (by simp)]
  · exact (((HB1.out.setCell (by simp) _).setCell (by simp) _).setCell (by simp) _)

end Go.Proofs.Qxb6003707a.Ofd
