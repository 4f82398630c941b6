import Derived.Test.Qxb6003707aOfdC
import Derived.RegionTactic
import Derived.BigRegion
import Derived.Deep.DeepCutAuto
namespace Go.Proofs.Qxb6003707a.Ofd
open Go.RowKit
set_option linter.unusedVariables false

theorem make_map (n : Int) (w : World) : Sem.run Try.prog (Instr.makeMap 59 (some (.int .i64 n))) w = .ok (.map (some w.heap.size)) (w.alloc (.map #[] 0)) := by kernel_rfl

/-- The map holds nothing, or the one key "" . -/
def IsM (es : Array MapEntry) (cl : Nat) : Prop := (es = #[] ∧ cl = 0) ∨ ∃ v, es = #[{ key := .string ⟨#[]⟩, val := .int .i64 v, born := 0 }] ∧ cl = 1

theorem upd (w : World) (gm : Nat) (es : Array MapEntry) (cl : Nat) (v : Int) (h : w.heap[gm]? = some (.map es cl)) (hm : IsM es cl) :
    Sem.run Try.prog (Instr.mapUpdate 59 (.map (some gm)) (.string ⟨#[]⟩) (.int .i64 v)) w = .ok () (ChangeMaps.setBlock w gm (.map #[{ key := .string ⟨#[]⟩, val := .int .i64 v, born := 0 }] 1)) := by
  unfold Instr.mapUpdate
  rcases hm with ⟨rfl, rfl⟩ | ⟨u, rfl, rfl⟩
  · have e1 : Sem.run Try.prog (Instr.checkKey false 10000 9 (.string ⟨#[]⟩)) w = .ok () w := by kernel_rfl
    have e2 : Sem.run Try.prog (Instr.findKey 9 (.string ⟨#[]⟩) []) w = .ok none w := by kernel_rfl
    simp [run_underlying Try.underlying59, Sem.run_bind, run_getObj_map w gm _ _ h, Result.andThen, e1, e2, MapKept.run_setObj_map _ h]
    rfl
  · have e1 : Sem.run Try.prog (Instr.checkKey false 10000 9 (.string ⟨#[]⟩)) w = .ok () w := by kernel_rfl
    have e2 : Sem.run Try.prog (Instr.findKey 9 (.string ⟨#[]⟩) [{ key := .string ⟨#[]⟩, val := .int .i64 u, born := 0 }]) w = .ok (some (0, .int .i64 u)) w := by kernel_rfl
    have e3 : Sem.run Try.prog (Instr.keyThatStays (.string ⟨#[]⟩) (.string ⟨#[]⟩)) w = .ok (.string ⟨#[]⟩) w := by kernel_rfl
    simp [run_underlying Try.underlying59, Sem.run_bind, run_getObj_map w gm _ _ h, Result.andThen, e1, e2, e3, MapKept.run_setObj_map _ h]
    rfl
theorem isM_one (v : Int) : IsM #[{ key := .string ⟨#[]⟩, val := .int .i64 v, born := 0 }] 1 := Or.inr ⟨v, rfl, rfl⟩

theorem cell_at {w : World} {g : Nat} {arr : Array Value} {t : TypeId} (h : w.heap[g]? = some (.cells arr t (0, 0))) {j : Nat} {v : Value} (hj : arr[j]? = some v) : w.cell? ⟨g, j, none⟩ = some v := by
  simp [World.cell?, h, hj]
theorem free_at {w : World} {g : Nat} {arr : Array Value} {t : TypeId} (h : w.heap[g]? = some (.cells arr t (0, 0))) (j : Nat) : w.frozen? ⟨g, j, none⟩ = false := by
  simp [World.frozen?, h]

/-- What NewLayout makes. -/
structure Lay (w : World) (base l gf gs : Nat) (n : Nat) (ws : List Int) (sum : Int) (m : Nat) : Prop where
  hl : base ≤ l
  hs : base ≤ gs
  ne : gs ≠ l
  lay : ∃ gm, base ≤ gm ∧ gm ≠ l ∧ gm ≠ gs ∧ w.heap[l]? = some (.cells #[.slice (some ⟨gf, 0, none⟩) n n, .slice (some ⟨gs, 0, none⟩) n n, .map (some gm), .int .i64 sum] 61 (0, 0)) ∧ ∃ es cl, w.heap[gm]? = some (.map es cl) ∧ IsM es cl
  starts : ∃ sarr, w.heap[gs]? = some (.cells sarr 3 (0, 0)) ∧ sarr.size = n ∧ ∀ j, j < m → sarr[j]? = some (.int .i64 (psum ws j))

theorem heap_alloc_lt (w : World) (o : Obj) {k : Nat} (h : k < w.heap.size) : (w.alloc o).heap[k]? = w.heap[k]? := Below.heap_alloc w o k h
theorem lt_of_heap {w : World} {g : Nat} {o : Obj} (h : w.heap[g]? = some o) : g < w.heap.size := by
  rcases Nat.lt_or_ge g w.heap.size with h1 | h1
  · exact h1
  · rw [Array.getElem?_eq_none h1] at h; cases h

theorem set_heap {w : World} {g : Nat} {arr : Array Value} {t : TypeId} (h : w.heap[g]? = some (.cells arr t (0, 0))) (j : Nat) (v : Value) : (w.setCell ⟨g, j, none⟩ v).heap[g]? = some (.cells (arr.setIfInBounds j v) t (0, 0)) := heap_setCell_same w g j arr t v h

theorem psum_bound (ws : List Int) (n : Nat) (hw : ws.length = n) (hz : ∀ k, k < n → 0 ≤ ws.getD k 0 ∧ ws.getD k 0 ≤ 1000) : ∀ k, k ≤ n → psum ws k ≤ 1000 * k := by
  intro k
  induction k with
  | zero => intro _; simp [psum]
  | succ k ih => intro h; have := ih (by omega); rw [psum_succ ws k (by omega)]; have := hz k (by omega); omega

/-- The world behind 'l.start[i] = l.width', the loop's f laid at the heap's end. -/
theorem step1 {w wr : World} {l gs gm n k N : Nat} {fa : Option Addr} {es : Array MapEntry} {cl : Nat} {sarr fc : Array Value} {x : Int}
    (hl : N ≤ l) (hs : N ≤ gs) (hne : gs ≠ l) (hne2 : gm ≠ gs)
    (hlb : wr.heap[l]? = some (.cells #[.slice fa n n, .slice (some ⟨gs, 0, none⟩) n n, .map (some gm), .int .i64 x] 61 (0, 0)))
    (hmb : wr.heap[gm]? = some (.map es cl)) (hsb : wr.heap[gs]? = some (.cells sarr 3 (0, 0))) (hb : Below N w wr) (hN : N ≤ wr.heap.size) :
    let w1 := ((wr.setCell ⟨gs, k, none⟩ (.int .i64 x)).alloc (.cells fc 57)).drew
    w1.heap[l]? = some (.cells #[.slice fa n n, .slice (some ⟨gs, 0, none⟩) n n, .map (some gm), .int .i64 x] 61 (0, 0)) ∧ w1.heap[gm]? = some (.map es cl) ∧
    w1.heap[gs]? = some (.cells (sarr.setIfInBounds k (.int .i64 x)) 3 (0, 0)) ∧ w1.heap[wr.heap.size]? = some (.cells fc 57 (0, 0)) ∧ Below N w w1 := by
  have l1 := lt_of_heap hlb
  have l2 := lt_of_heap hmb
  have l3 := lt_of_heap hsb
  have hsz : (wr.setCell ⟨gs, k, none⟩ (.int .i64 x)).heap.size = wr.heap.size := World.size_setCell _ _ _
  refine ⟨?_, ?_, ?_, ?_, ?_⟩
  · show ((wr.setCell ⟨gs, k, none⟩ (.int .i64 x)).alloc (.cells fc 57)).heap[l]? = _
    rw [heap_alloc_lt _ _ (by omega), heap_setCell_other _ _ _ _ (by simp; omega), hlb]
  · show ((wr.setCell ⟨gs, k, none⟩ (.int .i64 x)).alloc (.cells fc 57)).heap[gm]? = _
    rw [heap_alloc_lt _ _ (by omega), heap_setCell_other _ _ _ _ (by simpa using hne2), hmb]
  · show ((wr.setCell ⟨gs, k, none⟩ (.int .i64 x)).alloc (.cells fc 57)).heap[gs]? = _
    rw [heap_alloc_lt _ _ (by omega), set_heap hsb]
  · show ((wr.setCell ⟨gs, k, none⟩ (.int .i64 x)).alloc (.cells fc 57)).heap[wr.heap.size]? = _
    rw [← hsz]; exact heap_alloc_new _ _
  · exact ((hb.setCell (by simpa using hs) _).alloc (by omega) _).drew

theorem other_block {w : World} {gm : Nat} {es : Array MapEntry} {cl : Nat} (hb : w.heap[gm]? = some (.map es cl)) (o : Obj) : w.grownBy (ChangeMaps.setBlock w gm o) (some gm) :=
  ⟨rfl, rfl, rfl, by simp [ChangeMaps.setBlock], fun k hk hne => ChangeMaps.heap_setBlock_other hb o (fun e => hne (by rw [e]))⟩

set_option maxHeartbeats 1600000 in
theorem newLayout_any (gf n : Nat) (arr : Array Value) (s : Nat → ByteArray) (ws : List Int) (w : World) (hf : w.heap[gf]? = some (.cells arr 57 (0, 0))) (hfs : Fields arr n s (fun k => ws.getD k 0)) (hn : n ≤ 1000)
    (hwl : ws.length = n) (hz : ∀ k, k < n → 0 ≤ ws.getD k 0 ∧ ws.getD k 0 ≤ 1000) :
    Calls Try.prog 32 #[.slice (some ⟨gf, 0, none⟩) n n] w fun e w' => ∃ l gs, e = .returned (.pointer (some ⟨l, 0, none⟩)) ∧ Lay w' w.heap.size l gf gs n ws (psum ws n) n ∧ Below w.heap.size w w' := by
  have HB := show Hid _ from psum_bound ws n hwl hz
  have HS : Hid (∀ k, k < n → psum ws (k + 1) = psum ws k + (ws.getD k 0).toNat) := fun k hk => psum_succ ws k (by omega)
  have HZ := show Hid _ from hz
  clear hz hwl
  have hmk := make_ints n (by omega)
  have hmm := make_map
  go_enter Try.func32, Try.ntmps32
  go_upto_region 1 with fail
  go_cut [3] (fun v wx => ∃ l gs, v = .pointer (some ⟨l, 0, none⟩) ∧ Lay wx w.heap.size l gf gs n ws 0 0 ∧ Below w.heap.size w wx)
  case first =>
    go_region
    all_goals go_wp2_with fail
    all_goals go_meet
    · refine ⟨_, w.heap.size, rfl, ⟨by omega, by omega, by omega, ⟨w.heap.size + 1, by omega, by omega, by omega, ?_, #[], 0, ?_, Or.inl ⟨rfl, rfl⟩⟩, ⟨mk n (fun _ => .int .i64 0), ?_, mk_size _ _, fun j hj => by omega⟩⟩, ?_⟩
      · show (((w.heap.push _).push _).push _)[w.heap.size + 1 + 1]? = _
        simp only [Array.getElem?_push, Array.size_push]; rw [if_pos trivial]
      · show (((w.heap.push _).push _).push _)[w.heap.size + 1]? = _
        simp only [Array.getElem?_push, Array.size_push]; rw [if_neg (by omega), if_pos trivial]
      · show (((w.heap.push _).push _).push _)[w.heap.size]? = _
        simp only [Array.getElem?_push, Array.size_push]; rw [if_neg (by omega), if_neg (by omega), if_pos trivial]
      · exact ((((Below.refl _ _).alloc (Nat.le_refl _) _).alloc (by simp) _).alloc (by simp; omega) _).drew
    · refine ⟨_, w.heap.size + 1, rfl, ⟨by omega, by omega, by omega, ⟨w.heap.size, by omega, by omega, by omega, ?_, #[], 0, ?_, Or.inl ⟨rfl, rfl⟩⟩, ⟨mk n (fun _ => .int .i64 0), ?_, mk_size _ _, fun j hj => by omega⟩⟩, ?_⟩
      · show (((w.heap.push _).push _).push _)[w.heap.size + 1 + 1]? = _
        simp only [Array.getElem?_push, Array.size_push]; rw [if_pos trivial]
      · show (((w.heap.push _).push _).push _)[w.heap.size]? = _
        simp only [Array.getElem?_push, Array.size_push]; rw [if_neg (by omega), if_neg (by omega), if_pos trivial]
      · show (((w.heap.push _).push _).push _)[w.heap.size + 1]? = _
        simp only [Array.getElem?_push, Array.size_push]; rw [if_neg (by omega), if_pos trivial]
      · exact ((((Below.refl _ _).alloc (Nat.le_refl _) _).alloc (by simp) _).alloc (by simp; omega) _).drew
  case rest =>
    obtain ⟨l, gs, rfl, hlay, hbel⟩ := hcut
    have hgf := lt_of_heap hf
    clear hmk hmm
    go_wp2
    go_loopw [17] (fun i wr => ∃ k : Nat, k ≤ n ∧ i = .int .i64 k ∧ Lay wr w.heap.size l gf gs n ws (psum ws k) k ∧ Below w.heap.size w wr) (fun i _ => n - (intOf i).toNat)
    case atStart => exact ⟨0, by omega, rfl, by rw [psum_zero]; exact hlay, hbel⟩
    case round =>
      clear hlay hbel
      obtain ⟨k, hk, rfl, ⟨hl, hs, hne, ⟨gm, hgm, hne1, hne2, hlb, es, cl, hmb, hism⟩, ⟨sarr, hsb, hssz, hsag⟩⟩, hb⟩ := hrel
      by_cases hlt : k < n
      · have c1 := cell_at hlb (j := 1) rfl
        have c2 := cell_at hlb (j := 2) rfl
        have c3 := cell_at hlb (j := 3) rfl
        have f3 := free_at hlb 3
        have hfw : wr.heap[gf]? = some (.cells arr 57 (0, 0)) := (hb.block gf hgf).trans hf
        obtain ⟨e0, e1, e2, e3⟩ := hfs k hlt
        have g0 := cell_at hfw e0
        have g1 := cell_at hfw e1
        have g2 := cell_at hfw e2
        have g3 := cell_at hfw e3
        obtain ⟨v0, hv0⟩ : ∃ v0, sarr[k]? = some v0 := ⟨_, Array.getElem?_eq_getElem (by omega)⟩
        have s0 := cell_at hsb hv0
        have sf := free_at hsb k
        have hl1 := lt_of_heap hlb
        have hs1 := lt_of_heap hsb
        have hm1 := lt_of_heap hmb
        have hf1 := lt_of_heap hfw
        have T1 := fun fc => step1 (k := k) (fc := fc) hl hs hne hne2 hlb hmb hsb hb hb.size
        have HSSZ : Hid (sarr.size = n) := hssz
        have HSAG : Hid (∀ j, j < k → sarr[j]? = some (.int .i64 (psum ws j))) := hsag
        clear e0 e1 e2 e3 hlb hsb hmb hfw hv0 hssz hsag
        have HT := show Hid _ from T1
        clear T1
        go_wp2
        go_region
        obtain ⟨a1, a2, a3, a4, a5⟩ := HT.out #[.string ⟨#[]⟩, .string (s k), .int .i64 (ws[k]?.getD 0), .int .i64 0]
        generalize ((wr.setCell ⟨gs, k, none⟩ (.int .i64 (psum ws k))).alloc (.cells #[.string ⟨#[]⟩, .string (s k), .int .i64 (ws[k]?.getD 0), .int .i64 0] 57)).drew = w1 at *
        clear c1 c2 c3 f3 g0 g1 g2 g3 s0 sf HT hb
        have c2 := cell_at a1 (j := 2) rfl
        have d0 := cell_at a4 (j := 0) rfl
        have hupd := upd w1.drew gm es cl k a2 hism
        have og := other_block (w := w1.drew) a2 (.map #[{ key := .string ⟨#[]⟩, val := .int .i64 k, born := 0 }] 1)
        have b2 : (ChangeMaps.setBlock w1.drew gm (.map #[{ key := .string ⟨#[]⟩, val := .int .i64 k, born := 0 }] 1)).heap[gm]? = some (.map #[{ key := .string ⟨#[]⟩, val := .int .i64 k, born := 0 }] 1) := ChangeMaps.heap_setBlock_same (w := w1.drew) a2 _
        have l1 := lt_of_heap a1
        have l3 := lt_of_heap a3
        have l4 := lt_of_heap a4
        have HO := show Hid _ from og
        have B2 := show Hid _ from b2
        have A1 := show Hid _ from a1
        have A3 := show Hid _ from a3
        have A4 := show Hid _ from a4
        clear og b2 a1 a2 a3 a4
        go_wp2
        go_region
        clear hupd c2 d0
        have og := HO.out
        have b2 := B2.out
        clear HO B2
        generalize ChangeMaps.setBlock w1.drew gm (.map #[{ key := .string ⟨#[]⟩, val := .int .i64 k, born := 0 }] 1) = w2 at *
        have p1 := (og.block l l1 (by simpa using (Ne.symm hne1))).trans A1.out
        have p3 := (og.block gs l3 (by simpa using (Ne.symm hne2))).trans A3.out
        have p4 := (og.block _ l4 (by simp; omega)).trans A4.out
        have hb2 : Below w.heap.size w w2 := a5.drew.grown og (by have := a5.size; exact this) (fun j hj => by cases hj; exact hgm)
        have c3 := cell_at p1 (j := 3) rfl
        have f3 := free_at p1 3
        have d2 := cell_at p4 (j := 2) rfl
        obtain ⟨z0, z1⟩ := HZ.out k hlt
        have hps := HS.out k hlt
        have hpb := HB.out k hk
        have HPS : Hid (((psum ws k : Nat) : Int) + ws[k]?.getD 0 = (psum ws (k + 1) : Nat)) := by
          show _ = _; rw [hps]; simp only [List.getD_eq_getElem?_getD] at z0 z1 ⊢; omega
        have P1 := show Hid _ from p1
        have P3 := show Hid _ from p3
        simp only [List.getD_eq_getElem?_getD] at z0 z1
        have hl2 := lt_of_heap p1
        clear p1 p3 p4 A1 A3 A4 og hps
        go_wp2
        go_region
        go_wp2
        go_roundw
        case rel =>
          refine ⟨k + 1, by omega, by go_num, ⟨hl, hs, hne, ⟨gm, hgm, hne1, hne2, ?_, _, _, ?_, isM_one k⟩, ⟨sarr.setIfInBounds k (.int .i64 (psum ws k)), ?_, ?_, ?_⟩⟩, ?_⟩
          · rw [← HPS.out]
            exact (set_heap P1.out 3 _)
          · exact (heap_setCell_other _ _ _ _ (by simpa using hne1)).trans b2
          · exact (heap_setCell_other _ _ _ _ (by simpa using hne)).trans P3.out
          · rw [Array.size_setIfInBounds]; exact HSSZ.out
          · exact set_agrees (f := fun j => .int .i64 (psum ws j)) HSSZ.out HSAG.out hlt
          · exact (hb2.setCell (by simpa using hl) _).drew
        case measure => simp [intOf]; omega
      · obtain rfl : k = n := by omega
        go_wp2
        go_ret
        exact ⟨l, gs, rfl, ⟨hl, hs, hne, ⟨gm, hgm, hne1, hne2, hlb, es, cl, hmb, hism⟩, ⟨sarr, hsb, hssz, hsag⟩⟩, hb⟩
end Go.Proofs.Qxb6003707a.Ofd
