import Derived.Test.Qxb6003707aOfdD
namespace Go.Proofs.Qxb6003707a.Ofd
open Go.RowKit
set_option linter.unusedVariables false

set_option maxHeartbeats 400000 in
theorem layout_any (a1 a2 : Option Addr) (n c1 c2 : Nat) (s : Nat → ByteArray) (ws : List Int) (w : World) (hr1 : Row w a1 n (fun k => .string (s k))) (hr2 : Row w a2 n (fun k => .int .i64 (ws.getD k 0))) (hn : n ≤ 1000)
    (hwl : ws.length = n) (hz : ∀ k, k < n → 0 ≤ ws.getD k 0 ∧ ws.getD k 0 ≤ 1000) :
    Calls Try.prog 18 #[.slice none 0 0, .slice a1 n c1, .slice a2 n c2] w fun e w' => ∃ l gf gs arr, e = .returned (.pointer (some ⟨l, 0, none⟩)) ∧ Lay w' (gf + 1) l gf gs n ws (psum ws n) n ∧ w.heap.size ≤ gf ∧ w'.heap[gf]? = some (.cells arr 57 (0, 0)) ∧ Fields arr n s (fun k => ws.getD k 0) ∧ Below w.heap.size w w' := by
  have HZ := show Hid _ from hz
  have HWL : Hid (ws.length = n) := hwl
  clear hz hwl
  have hmk := make_fields n (by omega)
  go_enter Try.func18, Try.ntmps18
  go_wp2
  clear hmk
  go_loopw [8] (fun i wr => ∃ (k : Nat) (arr : Array Value), k ≤ n ∧ i = .int .i64 k ∧ arr.size = n * 4 ∧ Fields arr k s (fun k => ws.getD k 0) ∧ wr = w.alloc (.cells arr 57)) (fun i _ => n - (intOf i).toNat)
  case atStart => exact ⟨0, _, by omega, rfl, zeroFields_size n, fun j hj => by omega, rfl⟩
  case round =>
    obtain ⟨k, arr, hk, rfl, hsz, hag, rfl⟩ := hrel
    by_cases hlt : k < n
    · rcases hr1 with h0 | ⟨b1, o1, rfl, hc1⟩
      · omega
      rcases hr2 with h0 | ⟨b2, o2, rfl, hc2⟩
      · omega
      have hck1 : ∀ arr, (w.alloc (.cells arr 57)).cell? ⟨b1, o1 + k, none⟩ = some (.string (s k)) := fun arr => Lib.cell?_alloc_some _ (hc1 k hlt)
      have hck2 : ∀ arr, (w.alloc (.cells arr 57)).cell? ⟨b2, o2 + k, none⟩ = some (.int .i64 (ws.getD k 0)) := fun arr => Lib.cell?_alloc_some _ (hc2 k hlt)
      have hst := hag.step hsz hlt
      have hg : ∀ c, c < 4 → ∃ v, arr[k * 4 + c]? = some v := fun c hc => ⟨_, Array.getElem?_eq_getElem (by omega)⟩
      obtain ⟨v0, g0⟩ := hg 0 (by omega)
      obtain ⟨v1, g1⟩ := hg 1 (by omega)
      obtain ⟨v2, g2⟩ := hg 2 (by omega)
      obtain ⟨v3, g3⟩ := hg 3 (by omega)
      rw [Nat.add_zero] at g0
      have HSZ : Hid (arr.size = n * 4) := hsz
      clear hc1 hc2 hag hg hsz
      go_wp2
      go_roundw
      case rel => exact ⟨k + 1, _, by omega, by go_num, by simp only [Array.size_setIfInBounds]; exact HSZ.out, hst, rfl⟩
      case measure => simp [intOf]; omega
    · obtain rfl : k = n := by omega
      have HAG := show Hid _ from hag
      clear hag hsz
      go_wp2_with fail
      refine (newLayout_any w.heap.size k arr s ws _ (heap_alloc_new _ _) HAG.out hn HWL.out HZ.out).mono ?_
      rintro e w1 ⟨l, gs, rfl, hlay, hbel⟩
      go_wp2
      go_ret
      have hsz1 : (w.alloc (.cells arr 57)).heap.size = w.heap.size + 1 := by simp
      rw [hsz1] at hlay hbel
      exact ⟨l, w.heap.size, gs, arr, rfl, hlay, Nat.le_refl _, (hbel.block _ (by omega)).trans (heap_alloc_new _ _), HAG.out, ((Below.refl _ _).alloc (Nat.le_refl _) _).trans (hbel.mono (by omega))⟩
end Go.Proofs.Qxb6003707a.Ofd
