import Derived.Test.Qxb6003729aLayA
import Derived.Test.Qxb6003729aNumD
namespace Go.Proofs.Qxb6003729a.Lay
open Go.RowKit Mem Num
set_option linter.unusedVariables false

def isS (c : Int) : Bool := decide (c = 32 ∨ c = 10 ∨ c = 9 ∨ c = 13)
/-- How many blanks stand ahead. -/
def sp : List Int → Nat
  | [] => 0
  | c :: cs => if isS c then sp cs + 1 else 0
theorem sp_yes {c : Int} {cs : List Int} (h : isS c = true) : sp (c :: cs) = sp cs + 1 := by rw [sp, if_pos h]
theorem sp_no {c : Int} {cs : List Int} (h : isS c = false) : sp (c :: cs) = 0 := by rw [sp, h]; rfl

set_option maxHeartbeats 1600000 in
theorem skip_any (P : Nat) (a : Option Addr) (n cap : Nat) (t : ByteArray) (inc : Bool) (zs : List Int) (i : Nat) (w : World) (h : Par w P a n cap t inc zs i) :
    Calls Try.prog 37 #[.pointer (some ⟨P, 0, none⟩)] w fun e w' => e = .returned (.tuple #[]) ∧ w.grownBy w' (some P) ∧ Par w' P a n cap t inc zs (i + sp (zs.drop i)) := by
  have H := hid h
  have hn := h.n20
  have hi := h.le
  clear h
  go_enter Try.func37, Try.ntmps37
  go_wp2
  go_loopg [] (n - i) (fun g wr => ∃ k : Nat, i ≤ k ∧ k ≤ n ∧ g = n - k ∧ w.grownBy wr (some P) ∧ Par wr P a n cap t inc zs k ∧ Hid (sp (zs.drop i) = k - i + sp (zs.drop k)))
  case atStart => exact ⟨i, by omega, hi, rfl, grown_refl _ _, H.out, by show _ = _; omega⟩
  case round =>
    obtain ⟨k, hik, hk, rfl, hg, hp, hd⟩ := hrel
    have c0 := cell_at hp.blk (j := 0) rfl
    have c2 := cell_at hp.blk (j := 2) rfl
    have f2 := free_at hp.blk 2
    by_cases hlt : k < n
    · have hdat := hp.data
      rcases hdat with h0 | ⟨b, off, rfl, hne, hc⟩
      · omega
      have hck := hc k hlt
      have hdr := Num.drop_at zs k (by rw [hp.len]; exact hlt)
      have HD := hid hd.out
      rw [hdr] at HD
      clear hc hdr hd
      have hck2 : wr.cell? ⟨b, off + k, none⟩ = some (.int .u8 (zs.getD k 0)) := hck
      clear hck
      generalize zs.getD k 0 = c at *
      have hi1 : (k : Int) < (n : Int) := by omega
      have hi2 : (0 : Int) ≤ (k : Int) := by omega
      cases hs : isS c
      · have e := HD.out
        rw [sp_no hs] at e
        have E := hid e
        have hns : ¬ (c = 32 ∨ c = 10 ∨ c = 9 ∨ c = 13) := by simpa [isS] using hs
        have g1 : (c != 32) = true := by simp; omega
        have g2 : (c != 10) = true := by simp; omega
        have g3 : (c != 9) = true := by simp; omega
        have g4 : (c != 13) = true := by simp; omega
        clear e HD hs hns
        go_wp2
        go_quiet (fail)
        go_wp2
        go_quiet (fail)
        go_wp2
        all_goals
          have e := E.out
          exact bodyPost_ret (v := .tuple #[]) (by simp [results, Try.results37, go_sem]) rfl ⟨rfl, grown_drewN hg _, by rw [e, show i + (k - i + 0) = k from by omega]; exact hp.drewN _⟩
      · have e := HD.out
        rw [sp_yes hs] at e
        have E := hid e
        have hns : c = 32 ∨ c = 10 ∨ c = 9 ∨ c = 13 := by simpa [isS] using hs
        clear e HD hs
        rcases hns with rfl | rfl | rfl | rfl
        all_goals
          go_wp2
          go_quiet (fail)
          go_wp2
          go_quiet (fail)
          go_wp2
          go_roundg (n - (k + 1))
          case measure => omega
          case rel => exact ⟨k + 1, by omega, by omega, rfl, grown_trans (grown_drewN hg _) (grown_set _ _ _ _), (hp.drewN _).move (k + 1) (by omega), by have := E.out; show _ = _; omega⟩
    · have hf : decide ((k : Int) < (n : Int)) = false := by simpa using hlt
      have hz : zs.drop k = [] := List.drop_of_length_le (by rw [hp.len]; omega)
      have e := hd.out
      rw [hz, sp] at e
      have E := hid e
      clear e hd hz
      go_wp2
      go_quiet (fail)
      go_wp2
      go_end0
      have e := E.out
      exact ⟨rfl, grown_drewN hg _, by rw [e, show i + (k - i + 0) = k from by omega]; exact hp.drewN _⟩

theorem zzskip_any (P : Nat) (a : Option Addr) (n cap : Nat) (t : ByteArray) (inc : Bool) (zs : List Int) (i : Nat) (w : World) (h : Par w P a n cap t inc zs i) :
    Calls Try.prog 22 #[.pointer (some ⟨P, 0, none⟩)] w fun e w' => e = .returned (.tuple #[]) ∧ w.grownBy w' (some P) ∧ Par w' P a n cap t inc zs (i + sp (zs.drop i)) := by
  go_enter Try.func22, Try.ntmps22
  go_wp2_with fail
  refine (skip_any P a n cap t inc zs i w h).mono ?_
  rintro e w1 ⟨rfl, hg, hp⟩
  go_wp2
  go_end0
  exact ⟨rfl, hg, hp⟩

/-- 'next(c)' where c does stand behind the blanks. -/
theorem next_any (P : Nat) (a : Option Addr) (n cap : Nat) (t : ByteArray) (inc : Bool) (zs : List Int) (i : Nat) (c : Int) (w : World) (h : Par w P a n cap t inc zs i) (hc : atC zs (i + sp (zs.drop i)) c = true) :
    Calls Try.prog 36 #[.pointer (some ⟨P, 0, none⟩), .int .u8 c] w fun e w' => e = .returned (.bool true) ∧ w.grownBy w' (some P) ∧ Par w' P a n cap t inc zs (i + sp (zs.drop i) + 1) := by
  have hn := h.n20
  have HC := hid hc
  clear hc
  go_enter Try.func36, Try.ntmps36
  go_wp2_with fail
  refine (skip_any P a n cap t inc zs i w h).mono ?_
  rintro e w1 ⟨rfl, hg, hp⟩
  obtain ⟨k, hk⟩ : ∃ k, k = i + sp (zs.drop i) := ⟨_, rfl⟩
  rw [← hk] at hp HC
  have HK := hid hk
  clear hk
  have hlt : k < n := by have := atC_lt HC.out; rw [hp.len] at this; exact this
  have c0 := cell_at hp.blk (j := 0) rfl
  have c2 := cell_at hp.blk (j := 2) rfl
  have f2 := free_at hp.blk 2
  rcases hp.data with h0 | ⟨b, off, rfl, hne, hcc⟩
  · omega
  have hck : w1.cell? ⟨b, off + k, none⟩ = some (.int .u8 (zs.getD k 0)) := hcc k hlt
  have hce : zs.getD k 0 = c := by
    have := HC.out
    rw [atC_in (by rw [hp.len]; exact hlt)] at this
    simpa only [decide_eq_true_iff] using this
  rw [hce] at hck
  clear hcc hce h
  have hi1 : (k : Int) < (n : Int) := by omega
  have hi2 : (0 : Int) ≤ (k : Int) := by omega
  have hcq : (c == c) = true := by simp
  go_wp2
  go_quiet (fail)
  go_wp2
  go_ret
  exact ⟨rfl, grown_trans (grown_drewN hg _) (grown_set _ _ _ _), by rw [← HK.out]; exact (hp.drewN _).move (k + 1) (by omega)⟩
theorem zznext_any (P : Nat) (a : Option Addr) (n cap : Nat) (t : ByteArray) (inc : Bool) (zs : List Int) (i : Nat) (c : Int) (w : World) (h : Par w P a n cap t inc zs i) (hc : atC zs (i + sp (zs.drop i)) c = true) :
    Calls Try.prog 21 #[.pointer (some ⟨P, 0, none⟩), .int .u8 c] w fun e w' => e = .returned (.bool true) ∧ w.grownBy w' (some P) ∧ Par w' P a n cap t inc zs (i + sp (zs.drop i) + 1) := by
  have HC := hid hc
  clear hc
  go_enter Try.func21, Try.ntmps21
  go_wp2_with fail
  refine (next_any P a n cap t inc zs i c w h HC.out).mono ?_
  rintro e w1 ⟨rfl, hg, hp⟩
  go_wp2
  go_ret
  exact ⟨rfl, hg, hp⟩

set_option maxHeartbeats 800000 in
/-- 'zzEqualBytes' of two equal rows. -/
theorem equal_any (a a' : Option Addr) (n cap cap' : Nat) (f : Nat → Int) (w : World) (h : Row w a n (fun k => .int .u8 (f k))) (h' : Row w a' n (fun k => .int .u8 (f k))) (hn : n ≤ 1048576) :
    Calls Try.prog 23 #[.slice a n cap, .slice a' n cap'] w fun e w' => e = .returned (.bool true) ∧ w.grownBy w' none := by
  have hq : ((n : Int) != (n : Int)) = false := by simp
  go_enter Try.func23, Try.ntmps23
  go_wp2
  go_loopw [5] (fun i wr => ∃ k : Nat, k ≤ n ∧ i = .int .i64 k ∧ ∃ q, wr = w.drewN q) (fun i _ => n - (intOf i).toNat)
  case atStart => exact ⟨0, by omega, rfl, 0, rfl⟩
  case round =>
    obtain ⟨k, hk, rfl, q, rfl⟩ := hrel
    by_cases hlt : k < n
    · rcases h with h0 | ⟨b, off, rfl, hc⟩
      · omega
      rcases h' with h0 | ⟨b', off', rfl, hc'⟩
      · omega
      have e1 := hc k hlt
      have e2 := hc' k hlt
      clear hc hc'
      generalize f k = c at *
      have hi1 : (k : Int) < (n : Int) := by omega
      have hi2 : (0 : Int) ≤ (k : Int) := by omega
      have hcq : (c != c) = false := by simp
      go_wp2
      go_quiet (fail)
      go_wp2
      go_roundw
      case rel => exact ⟨k + 1, by omega, by go_num, _, rfl⟩
      case measure => simp [intOf]; omega
    · go_wp2
      go_ret
      exact ⟨rfl, grown_drewN (grown_refl _ _) _⟩
end Go.Proofs.Qxb6003729a.Lay
