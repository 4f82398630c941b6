import Derived.Test.Qxb6003707aOfdE
namespace Go.Proofs.Qxb6003707a.Ofd
open Go.RowKit
set_option linter.unusedVariables false

theorem hid {p : Prop} (h : p) : Hid p := h
theorem grown_trans {a b c : World} {row : Option Nat} (h : a.grownBy b row) (k : b.grownBy c row) : a.grownBy c row :=
  ⟨k.os.trans h.os, k.tape.trans h.tape, k.output.trans h.output, Nat.le_trans h.size k.size, fun i hi hne => (k.block i (Nat.lt_of_lt_of_le hi h.size) hne).trans (h.block i hi hne)⟩
theorem grown_refl (a : World) (row : Option Nat) : a.grownBy a row := ⟨rfl, rfl, rfl, Nat.le_refl _, fun _ _ _ => rfl⟩
theorem grown_alloc (a : World) (o : Obj) (row : Option Nat) : a.grownBy (a.alloc o) row := ⟨rfl, rfl, rfl, by simp, fun i hi _ => heap_alloc_lt a o hi⟩
theorem grown_alloc' {a b : World} {o : Obj} (h : a.alloc o = b) (row : Option Nat) : a.grownBy b row := h ▸ grown_alloc a o row
theorem grown_set (a : World) (g j : Nat) (v : Value) : a.grownBy (a.setCell ⟨g, j, none⟩ v) (some g) :=
  ⟨rfl, rfl, rfl, by simp, fun i hi hne => heap_setCell_other _ _ _ _ (by intro e; exact hne (by rw [e]))⟩

/-- The text of m bytes at ta agrees with B below p. -/
def Txt (w : World) (ρ : Option Nat) (m : Nat) (ta : Option Addr) (B : List Int) (p : Nat) : Prop :=
  m = 0 ∨ ∃ gt tarr, ρ = some gt ∧ ta = some ⟨gt, 0, none⟩ ∧ w.heap[gt]? = some (.cells tarr 5 (0, 0)) ∧ tarr.size = m ∧ ∀ j, j < p → tarr[j]? = some (.int .u8 (B.getD j 0))

theorem Txt.kept {w w' : World} {ρ : Option Nat} {m : Nat} {ta : Option Addr} {B : List Int} {p : Nat} (h : Txt w ρ m ta B p) (hb : ∀ g, ρ = some g → g < w.heap.size → w'.heap[g]? = w.heap[g]?) : Txt w' ρ m ta B p := by
  rcases h with h | ⟨gt, tarr, h1, h2, h3, h4⟩
  · exact Or.inl h
  · exact Or.inr ⟨gt, tarr, h1, h2, (hb gt h1 (lt_of_heap h3)).trans h3, h4⟩

theorem Txt.put {w : World} {gt m p : Nat} {ta : Option Addr} {B : List Int} {v : Int} (h : Txt w (some gt) m ta B p) (hp : p < m) (hv : B.getD p 0 = v) : Txt (w.setCell ⟨gt, p, none⟩ (.int .u8 v)) (some gt) m ta B (p + 1) := by
  rcases h with h | ⟨g, tarr, h1, h2, h3, h4, h5⟩
  · omega
  · cases h1
    refine Or.inr ⟨gt, _, rfl, h2, set_heap h3 p _, by rw [Array.size_setIfInBounds]; exact h4, ?_⟩
    have := set_agrees (f := fun j => .int .u8 (B.getD j 0)) h4 h5 hp
    rw [hv] at this
    exact this

/-- What Clear is told of the record. -/
structure Rec (w : World) (r l gf gs n m : Nat) (ρ : Option Nat) (ta : Option Addr) (ts : List ByteArray) (ws : List Int) : Prop where
  len : ts.length = ws.length
  wlen : ws.length = n
  n1000 : n ≤ 1000
  wid : ∀ k, k < n → 0 ≤ ws.getD k 0 ∧ ws.getD k 0 ≤ 1000
  sum : m = psum ws n
  rc : ∃ line, w.heap[r]? = some (.cells #[.int .i64 line, .pointer (some ⟨l, 0, none⟩), .slice ta m m] 48 (0, 0))
  lay : ∃ mp, w.heap[l]? = some (.cells #[.slice (some ⟨gf, 0, none⟩) n n, .slice (some ⟨gs, 0, none⟩) n n, mp, .int .i64 m] 61 (0, 0))
  fields : ∃ arr, w.heap[gf]? = some (.cells arr 57 (0, 0)) ∧ Fields arr n (fun k => ts.getD k ByteArray.empty) (fun k => ws.getD k 0)
  starts : ∃ sarr, w.heap[gs]? = some (.cells sarr 3 (0, 0)) ∧ ∀ j, j < n → sarr[j]? = some (.int .i64 (psum ws j))
  ne1 : ρ ≠ some r
  ne2 : ρ ≠ some l
  ne3 : ρ ≠ some gf
  ne4 : ρ ≠ some gs
  lt : ∀ g, ρ = some g → g < w.heap.size

theorem Rec.kept {w w' : World} {r l gf gs n m : Nat} {ρ : Option Nat} {ta : Option Addr} {ts : List ByteArray} {ws : List Int} (h : Rec w r l gf gs n m ρ ta ts ws) (hg : w.grownBy w' ρ) : Rec w' r l gf gs n m ρ ta ts ws := by
  obtain ⟨a1, a2, a3, a4, a5, ⟨line, h1⟩, ⟨mp, h2⟩, ⟨arr, h3, h3'⟩, ⟨sarr, h4, h4'⟩, n1, n2, n3, n4, lt⟩ := h
  refine ⟨a1, a2, a3, a4, a5, ⟨line, ?_⟩, ⟨mp, ?_⟩, ⟨arr, ?_, h3'⟩, ⟨sarr, ?_, h4'⟩, n1, n2, n3, n4, fun g e => Nat.lt_of_lt_of_le (lt g e) hg.size⟩
  · rw [hg.block _ (lt_of_heap h1) (Ne.symm n1)]; exact h1
  · rw [hg.block _ (lt_of_heap h2) (Ne.symm n2)]; exact h2
  · rw [hg.block _ (lt_of_heap h3) (Ne.symm n3)]; exact h3
  · rw [hg.block _ (lt_of_heap h4) (Ne.symm n4)]; exact h4

set_option maxHeartbeats 1600000 in
theorem clear_any (r l gf gs n m : Nat) (ρ : Option Nat) (ta : Option Addr) (ts : List ByteArray) (ws : List Int) (w : World) (hr : Rec w r l gf gs n m ρ ta ts ws) (ht : Txt w ρ m ta (blank ts ws) 0) :
    Calls Try.prog 25 #[.pointer (some ⟨r, 0, none⟩)] w fun e w' => e = .returned (.tuple #[]) ∧ w.grownBy w' ρ ∧ Txt w' ρ m ta (blank ts ws) m := by
  have hn := hr.n1000
  have HSUM : Hid (m = psum ws n) := hr.sum
  have HB := hid (psum_bound ws n hr.wlen hr.wid)
  have HS : Hid (∀ k, k < n → psum ws (k + 1) = psum ws k + (ws.getD k 0).toNat) := fun k hk => psum_succ ws k (by rw [hr.wlen]; exact hk)
  have HMO : Hid (∀ k, k ≤ n → psum ws k ≤ psum ws n) := fun k hk => by have := psum_mono ws k (by rw [hr.wlen]; exact hk); rw [hr.wlen] at this; exact this
  have HG : Hid (∀ k d, k < n → d < (ws.getD k 0).toNat → (blank ts ws).getD (psum ws k + d) 0 = pad (ts.getD k ByteArray.empty)) := fun k d hk hd => by
    rw [List.getD_eq_getElem?_getD, blank_get ts ws k d hr.len (by rw [hr.wlen]; exact hk) hd]; rfl
  obtain ⟨line, q1⟩ := hr.rc
  obtain ⟨mp, q2⟩ := hr.lay
  have r1 := cell_at q1 (j := 1) rfl
  have l0 := cell_at q2 (j := 0) rfl
  have HR := hid hr
  clear q1 q2 hr
  go_enter Try.func25, Try.ntmps25
  go_wp2
  go_loopw [15] (fun i wr => ∃ k : Nat, k ≤ n ∧ i = .int .i64 k ∧ w.grownBy wr ρ ∧ Txt wr ρ m ta (blank ts ws) (psum ws k)) (fun i _ => n - (intOf i).toNat)
  case atStart => exact ⟨0, by omega, rfl, grown_refl _ _, by rw [psum_zero]; exact ht⟩
  case round =>
    clear ht r1 l0
    obtain ⟨k, hk, rfl, hg, ht⟩ := hrel
    by_cases hlt : k < n
    · have hr := HR.out.kept hg
      obtain ⟨z0, z1⟩ := hr.wid k hlt
      obtain ⟨line, q1⟩ := hr.rc
      obtain ⟨mp, q2⟩ := hr.lay
      obtain ⟨arr, q3, q3'⟩ := hr.fields
      obtain ⟨sarr, q4, q4'⟩ := hr.starts
      obtain ⟨e0, e1, e2, e3⟩ := q3' k hlt
      have r1 := cell_at q1 (j := 1) rfl
      have l1 := cell_at q2 (j := 1) rfl
      have g0 := cell_at q3 e0
      have g1 : wr.cell? ⟨gf, k * 4 + 1, none⟩ = some (.string (ts.getD k ByteArray.empty)) := cell_at q3 e1
      have g2 : wr.cell? ⟨gf, k * 4 + 2, none⟩ = some (.int .i64 (ws.getD k 0)) := cell_at q3 e2
      have g3 := cell_at q3 e3
      have s0 := cell_at q4 (q4' k hlt)
      have x1 := lt_of_heap q1
      have x2 := lt_of_heap q2
      have x4 := lt_of_heap q4
      have hps := HS.out k hlt
      have hpb := HB.out k hk
      have hpm := HMO.out (k + 1) hlt
      have HGK : Hid (∀ d, d < (ws.getD k 0).toNat → (blank ts ws).getD (psum ws k + d) 0 = pad (ts.getD k ByteArray.empty)) := fun d hd => HG.out k d hlt hd
      have HR1 := hid hr
      have hm2 : psum ws k + (ws.getD k 0).toNat ≤ m := by rw [HSUM.out]; omega
      clear hr q1 q2 q3 q3' q4 q4' e0 e1 e2 e3 HG HS HMO HB
      have HPS : Hid (psum ws (k + 1) = psum ws k + (ws.getD k 0).toNat) := hps
      clear hps hpm
      generalize ws.getD k 0 = W at *
      generalize ts.getD k ByteArray.empty = S at *
      generalize psum ws k = Pk at *
      obtain ⟨wk, rfl⟩ : ∃ wk : Nat, W = wk := ⟨W.toNat, by omega⟩
      rw [Int.toNat_natCast] at hm2
      have ht1 : Txt (wr.alloc (.cells #[.string ⟨#[]⟩, .string S, .int .i64 wk, .int .i64 0] 57)) ρ m ta (blank ts ws) Pk := ht.kept (fun g e hlt => heap_alloc_lt _ _ hlt)
      have hg1 : w.grownBy (wr.alloc (.cells #[.string ⟨#[]⟩, .string S, .int .i64 wk, .int .i64 0] 57)) ρ := grown_trans hg (grown_alloc _ _ _)
      have hF : (wr.alloc (.cells #[.string ⟨#[]⟩, .string S, .int .i64 wk, .int .i64 0] 57)).heap[wr.heap.size]? = some (.cells #[.string ⟨#[]⟩, .string S, .int .i64 wk, .int .i64 0] 57 (0, 0)) := heap_alloc_new _ _
      have HF := hid hF
      have HT1 := hid ht1
      have HG1 := hid hg1
      clear ht hg ht1 hg1 hF
      cases hN : (S.toList == [78])
      · have hpad : Hid (pad S = 32) := pad_text hN
        go_wp2
        have hF := HF.out
        have ht1 := HT1.out
        have hg1 := HG1.out
        clear HF HT1 HG1 r1 l1 g0 g1 g2 g3 s0 x1 x2 x4
        have hF' := lt_of_heap hF
        generalize hFb : wr.heap.size = F at *
        generalize hW1 : wr.alloc (.cells #[.string ⟨#[]⟩, .string S, .int .i64 wk, .int .i64 0] 57) = w1 at *
        have HW1 := hid hW1
        clear hW1
        go_loopw [6] (fun j wi => ∃ d : Nat, d ≤ wk ∧ j = .int .i64 (Pk + d : Nat) ∧ w1.grownBy wi ρ ∧ Txt wi ρ m ta (blank ts ws) (Pk + d)) (fun j _ => Pk + wk - (intOf j).toNat)
        case atStart => exact ⟨0, by omega, rfl, grown_refl _ _, ht1⟩
        case round =>
          clear ht1
          obtain ⟨d, hd, rfl, hgi, hti⟩ := hrel
          have hFi := (hgi.block F hF' (by intro e; have := HR1.out.lt F e.symm; omega)).trans hF
          have c2 := cell_at hFi (j := 2) rfl
          have hri := HR1.out.kept (grown_trans (grown_alloc' HW1.out ρ) hgi)
          obtain ⟨line2, y1⟩ := hri.rc
          have r2 := cell_at y1 (j := 2) rfl
          by_cases hdw : d < wk
          · rcases hti with hm0 | ⟨gt, tarr, hρ, rfl, y3, y4, y5⟩
            · omega
            · have hti' : Txt wr (some gt) m (some ⟨gt, 0, none⟩) (blank ts ws) (Pk + d) := Or.inr ⟨gt, tarr, rfl, rfl, y3, y4, y5⟩
              have hput := hti'.put (v := 32) (by omega) ((HGK.out d (by omega)).trans hpad.out)
              obtain ⟨v0, hv0⟩ : ∃ v0, tarr[Pk + d]? = some v0 := ⟨_, Array.getElem?_eq_getElem (by omega)⟩
              have t0 := cell_at y3 hv0
              have tf := free_at y3 (Pk + d)
              have HPU := hid hput
              have HGI := hid hgi
              have HRHO := hid hρ
              clear hput hgi hρ hti' y3 y4 y5 y1 hri hFi hv0
              go_wp2
              go_roundw
              case rel => exact ⟨d + 1, by omega, by go_num, by have hx := HGI.out; rw [HRHO.out] at hx ⊢; exact grown_trans hx (grown_set _ _ _ _), by rw [HRHO.out]; exact HPU.out⟩
              case measure => simp [intOf]; omega
          · obtain rfl : d = wk := by omega
            have HGI := hid hgi
            have HTI := hid hti
            clear hgi hti y1 hri hFi r2
            go_wp2
            go_roundw
            case rel => exact ⟨k + 1, by omega, by go_num, grown_trans hg1 HGI.out, by rw [HPS.out]; simpa using HTI.out⟩
            case measure => simp [intOf]; omega
      · have hpad : Hid (pad S = 48) := pad_num hN
        go_wp2
        have hF := HF.out
        have ht1 := HT1.out
        have hg1 := HG1.out
        clear HF HT1 HG1 r1 l1 g0 g1 g2 g3 s0 x1 x2 x4
        have hF' := lt_of_heap hF
        generalize hFb : wr.heap.size = F at *
        generalize hW1 : wr.alloc (.cells #[.string ⟨#[]⟩, .string S, .int .i64 wk, .int .i64 0] 57) = w1 at *
        have HW1 := hid hW1
        clear hW1
        go_loopw [6] (fun j wi => ∃ d : Nat, d ≤ wk ∧ j = .int .i64 (Pk + d : Nat) ∧ w1.grownBy wi ρ ∧ Txt wi ρ m ta (blank ts ws) (Pk + d)) (fun j _ => Pk + wk - (intOf j).toNat)
        case atStart => exact ⟨0, by omega, rfl, grown_refl _ _, ht1⟩
        case round =>
          clear ht1
          obtain ⟨d, hd, rfl, hgi, hti⟩ := hrel
          have hFi := (hgi.block F hF' (by intro e; have := HR1.out.lt F e.symm; omega)).trans hF
          have c2 := cell_at hFi (j := 2) rfl
          have hri := HR1.out.kept (grown_trans (grown_alloc' HW1.out ρ) hgi)
          obtain ⟨line2, y1⟩ := hri.rc
          have r2 := cell_at y1 (j := 2) rfl
          by_cases hdw : d < wk
          · rcases hti with hm0 | ⟨gt, tarr, hρ, rfl, y3, y4, y5⟩
            · omega
            · have hti' : Txt wr (some gt) m (some ⟨gt, 0, none⟩) (blank ts ws) (Pk + d) := Or.inr ⟨gt, tarr, rfl, rfl, y3, y4, y5⟩
              have hput := hti'.put (v := 48) (by omega) ((HGK.out d (by omega)).trans hpad.out)
              obtain ⟨v0, hv0⟩ : ∃ v0, tarr[Pk + d]? = some v0 := ⟨_, Array.getElem?_eq_getElem (by omega)⟩
              have t0 := cell_at y3 hv0
              have tf := free_at y3 (Pk + d)
              have HPU := hid hput
              have HGI := hid hgi
              have HRHO := hid hρ
              clear hput hgi hρ hti' y3 y4 y5 y1 hri hFi hv0
              go_wp2
              go_roundw
              case rel => exact ⟨d + 1, by omega, by go_num, by have hx := HGI.out; rw [HRHO.out] at hx ⊢; exact grown_trans hx (grown_set _ _ _ _), by rw [HRHO.out]; exact HPU.out⟩
              case measure => simp [intOf]; omega
          · obtain rfl : d = wk := by omega
            have HGI := hid hgi
            have HTI := hid hti
            clear hgi hti y1 hri hFi r2
            go_wp2
            go_roundw
            case rel => exact ⟨k + 1, by omega, by go_num, grown_trans hg1 HGI.out, by rw [HPS.out]; simpa using HTI.out⟩
            case measure => simp [intOf]; omega
    · obtain rfl : k = n := by omega
      have HG2 := hid hg
      have HT2 := hid ht
      clear hg ht
      go_wp2
      go_end0
      exact ⟨rfl, HG2.out, by rw [HSUM.out]; exact HSUM.out ▸ HT2.out⟩
end Go.Proofs.Qxb6003707a.Ofd
