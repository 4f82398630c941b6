import Derived.Test.Qxb6003729aApp
import Derived.Test.Qxb6003729aNumPlain
import Derived.Deep.LoopGhost
namespace Go.Proofs.Qxb6003729a.Num
open Go.RowKit Mem
set_option linter.unusedVariables false

/-- The parser in block P stands at offset i of the bytes zs. -/
structure Par (w : World) (P : Nat) (a : Option Addr) (n cap : Nat) (t : ByteArray) (inc : Bool) (zs : List Int) (i : Nat) : Prop where
  len : zs.length = n
  n20 : n ≤ 1048576
  le : i ≤ n
  blk : w.heap[P]? = some (.cells #[.slice a n cap, .string t, .int .i64 i, .bool inc] 68 (0, 0))
  data : n = 0 ∨ ∃ b off, a = some ⟨b, off, none⟩ ∧ b ≠ P ∧ ∀ k, k < n → w.cell? ⟨b, off + k, none⟩ = some (.int .u8 (zs.getD k 0))

theorem Par.drewN {w : World} {P : Nat} {a : Option Addr} {n cap : Nat} {t : ByteArray} {inc : Bool} {zs : List Int} {i : Nat} (h : Par w P a n cap t inc zs i) (q : Nat) : Par (w.drewN q) P a n cap t inc zs i :=
  ⟨h.len, h.n20, h.le, h.blk, h.data⟩
theorem Par.move {w : World} {P : Nat} {a : Option Addr} {n cap : Nat} {t : ByteArray} {inc : Bool} {zs : List Int} {i : Nat} (h : Par w P a n cap t inc zs i) (j : Nat) (hj : j ≤ n) : Par (w.setCell ⟨P, 2, none⟩ (.int .i64 j)) P a n cap t inc zs j := by
  refine ⟨h.len, h.n20, hj, set_heap h.blk 2 _, ?_⟩
  rcases h.data with h0 | ⟨b, off, h1, h2, h3⟩
  · exact Or.inl h0
  · exact Or.inr ⟨b, off, h1, h2, fun k hk => by rw [World.cell?_setCell_other _ _ _ _ (by intro e; injection e with e _ _; exact h2 e.symm)]; exact h3 k hk⟩
theorem Par.kept {w w' : World} {P : Nat} {a : Option Addr} {n cap : Nat} {t : ByteArray} {inc : Bool} {zs : List Int} {i : Nat} (h : Par w P a n cap t inc zs i) (hb : Below w.heap.size w w') : Par w' P a n cap t inc zs i := by
  refine ⟨h.len, h.n20, h.le, (hb.block _ (lt_of_heap h.blk)).trans h.blk, ?_⟩
  rcases h.data with h0 | ⟨b, off, h1, h2, h3⟩
  · exact Or.inl h0
  · exact Or.inr ⟨b, off, h1, h2, fun k hk => cell_later hb (h3 k hk)⟩
theorem grown_drewN {a b : World} {row : Option Nat} (h : a.grownBy b row) (q : Nat) : a.grownBy (b.drewN q) row := ⟨h.os, h.tape, h.output, h.size, h.block⟩

set_option maxHeartbeats 1600000 in
theorem digits_any (P : Nat) (a : Option Addr) (n cap : Nat) (t : ByteArray) (inc : Bool) (zs : List Int) (i : Nat) (w : World) (h : Par w P a n cap t inc zs i) :
    Calls Try.prog 39 #[.pointer (some ⟨P, 0, none⟩)] w fun e w' => e = .returned (.int .i64 (dig (zs.drop i) : Nat)) ∧ w.grownBy w' (some P) ∧ Par w' P a n cap t inc zs (i + dig (zs.drop i)) := by
  have c2 := cell_at h.blk (j := 2) rfl
  have H := hid h
  have hn := h.n20
  have hi := h.le
  clear h
  go_enter Try.func39, Try.ntmps39
  go_wp2
  go_loopg [] (n - i) (fun g wr => ∃ k : Nat, i ≤ k ∧ k ≤ n ∧ g = n - k ∧ w.grownBy wr (some P) ∧ Par wr P a n cap t inc zs k ∧ Hid (dig (zs.drop i) = k - i + dig (zs.drop k)))
  case atStart => exact ⟨i, by omega, hi, rfl, grown_refl _ _, H.out, by show _ = _; omega⟩
  case round =>
    clear c2
    obtain ⟨k, hik, hk, rfl, hg, hp, hd⟩ := hrel
    have c0 := cell_at hp.blk (j := 0) rfl
    have c2 := cell_at hp.blk (j := 2) rfl
    have f2 := free_at hp.blk 2
    by_cases hlt : k < n
    · have hdat := hp.data
      rcases hdat with h0 | ⟨b, off, rfl, hne, hc⟩
      · omega
      have hck := hc k hlt
      have hdr := drop_at zs k (by rw [hp.len]; exact hlt)
      have HD := hid hd.out
      rw [hdr] at HD
      clear hc hdr hd
      have hck2 : wr.cell? ⟨b, off + k, none⟩ = some (.int .u8 (zs.getD k 0)) := hck
      clear hck
      generalize zs.getD k 0 = c at *
      have hi1 : (k : Int) < (n : Int) := by omega
      have hi2 : (0 : Int) ≤ (k : Int) := by omega
      by_cases h1 : 48 ≤ c
      · by_cases h2 : c ≤ 57
        · have e := HD.out
          rw [dig_yes h1 h2] at e
          have E := hid e
          clear e HD
          go_wp2
          go_quiet (fail)
          go_wp2
          go_roundg (n - (k + 1))
          case measure => omega
          case rel => exact ⟨k + 1, by omega, by omega, rfl, grown_trans (grown_drewN hg _) (grown_set _ _ _ _), (hp.drewN _).move (k + 1) (by omega), by have := E.out; show _ = _; omega⟩
        · have hf : decide (c ≤ 57) = false := by simpa using h2
          have e := HD.out
          rw [dig_no (by omega)] at e
          have E := hid e
          clear e HD
          go_wp2
          go_quiet (fail)
          go_wp2
          go_ret
          have e := E.out
          exact ⟨ret_int (by omega), grown_drewN hg _, by rw [e, show i + (k - i + 0) = k from by omega]; exact hp.drewN _⟩
      · have hf : decide (48 ≤ c) = false := by simpa using h1
        have e := HD.out
        rw [dig_no (by omega)] at e
        have E := hid e
        clear e HD
        go_wp2
        go_quiet (fail)
        go_wp2
        go_ret
        have e := E.out
        exact ⟨ret_int (by omega), grown_drewN hg _, by rw [e, show i + (k - i + 0) = k from by omega]; exact hp.drewN _⟩
    · have hf : decide ((k : Int) < (n : Int)) = false := by simpa using hlt
      have hz : zs.drop k = [] := List.drop_of_length_le (by rw [hp.len]; omega)
      have e := hd.out
      rw [hz, dig_nil] at e
      have E := hid e
      clear e hd hz
      go_wp2
      go_quiet (fail)
      go_wp2
      go_ret
      have e := E.out
      exact ⟨ret_int (by omega), grown_drewN hg _, by rw [e, show i + (k - i + 0) = k from by omega]; exact hp.drewN _⟩
end Go.Proofs.Qxb6003729a.Num
