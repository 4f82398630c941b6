import Derived.Test.Qxb6003783aDoorSub
namespace Go.Proofs.Qxb6003783aDoor.Stale
open Go.RowKit Mem Fmt
set_option linter.unusedVariables false

theorem low_pow : ∀ (u : Nat), 10 ≤ u → 10 ^ (Lib.nDigits u - 1) ≤ u := by
  intro u
  induction u using Nat.strongRecOn with
  | ind u ih =>
    intro h
    rw [Lib.nDigits_big (by omega)]
    by_cases h2 : u / 10 < 10
    · rw [Lib.nDigits_small h2]; simpa using h
    · have := ih (u / 10) (by omega) (by omega)
      have hp := Lib.nDigits_pos (u / 10)
      rw [show Lib.nDigits (u / 10) + 1 - 1 = (Lib.nDigits (u / 10) - 1) + 1 from by omega, Nat.pow_succ]
      omega
/-- The first j digits of u, as a number. -/
def top (u j : Nat) : Nat := u / 10 ^ (Lib.nDigits u - j)
/-- Digit j of u, from the left. -/
def dig (u j : Nat) : Nat := u / 10 ^ (Lib.nDigits u - 1 - j) % 10
theorem top_zero (u : Nat) : top u 0 = 0 := by
  unfold top; exact Nat.div_eq_of_lt (Lib.lt_pow_nDigits u)
theorem top_all (u : Nat) : top u (Lib.nDigits u) = u := by unfold top; simp
theorem top_step (u j : Nat) (h : j < Lib.nDigits u) : top u (j + 1) = top u j * 10 + dig u j := by
  unfold top dig
  rw [show Lib.nDigits u - 1 - j = Lib.nDigits u - (j + 1) from by omega, show Lib.nDigits u - j = (Lib.nDigits u - (j + 1)) + 1 from by omega, Nat.pow_succ, ← Nat.div_div_eq_div_mul]
  omega
theorem top_le (u j : Nat) : top u j ≤ u := Nat.div_le_self _ _
theorem dig_lt (u j : Nat) : dig u j < 10 := Nat.mod_lt _ (by decide)
theorem dig_first (u : Nat) (h : 10 ≤ u) : 1 ≤ dig u 0 := by
  have h1 := low_pow u h
  have h2 := Lib.lt_pow_nDigits u
  have hp := Lib.nDigits_pos u
  unfold dig
  rw [Nat.sub_zero]
  have h3 : u / 10 ^ (Lib.nDigits u - 1) < 10 := by
    apply Nat.div_lt_of_lt_mul
    rw [← Nat.pow_succ, show (Lib.nDigits u - 1).succ = Lib.nDigits u from by omega]; exact h2
  rw [Nat.mod_eq_of_lt h3]
  exact (Nat.one_le_div_iff (Nat.pos_of_ne_zero (by simp))).mpr h1
theorem two_digits (u : Nat) (h : 1 < Lib.nDigits u) : 10 ≤ u := by
  rcases Nat.lt_or_ge u 10 with h1 | h1
  · rw [Lib.nDigits_small h1] at h; omega
  · exact h1
theorem digit_at (u j : Nat) (h : j < (Lib.decDigits u).length) : ((Lib.decDigits u)[j]).toNat = 48 + dig u j := by
  simp only [Lib.decDigits_eq u, List.getElem_map, List.getElem_range]
  unfold Lib.dg dig
  have : u / 10 ^ (Lib.nDigits u - 1 - j) % 10 < 10 := Nat.mod_lt _ (by decide)
  simp
  omega

/-- A name: p and u's digits. -/
def nm (p : List UInt8) (u : Nat) : ByteArray := ⟨(p ++ Lib.decDigits u).toArray⟩
theorem nm_size (p : List UInt8) (u : Nat) : (nm p u).size = p.length + Lib.nDigits u := by
  show (p ++ Lib.decDigits u).toArray.size = _
  simp [Lib.decDigits_length]
theorem nm_pre (p : List UInt8) (u i : Nat) (h : i < (nm p u).size) (hp : i < p.length) : ((nm p u)[i]'h) = p[i] := by
  have h' : i < (p ++ Lib.decDigits u).toArray.size := h
  have e : (nm p u)[i]'h = (p ++ Lib.decDigits u).toArray[i]'h' := rfl
  rw [e]
  simp [hp]
theorem nm_dig (p : List UInt8) (u j : Nat) (h : p.length + j < (nm p u).size) : (((nm p u)[p.length + j]'h).toNat) = 48 + dig u j := by
  have hj : j < (Lib.decDigits u).length := by rw [nm_size] at h; rw [Lib.decDigits_length]; omega
  rw [← digit_at u j hj]
  have h' : p.length + j < (p ++ Lib.decDigits u).toArray.size := h
  have e : (nm p u)[p.length + j]'h = (p ++ Lib.decDigits u).toArray[p.length + j]'h' := rfl
  rw [e]
  simp

set_option maxHeartbeats 800000 in
theorem hasPrefix_yes (S q : ByteArray) (w : World) (hs : S.size ≤ 1000000000) (hq : q.size ≤ S.size) (he : ∀ i (h1 : i < S.size) (h2 : i < q.size), S[i]'h1 = q[i]'h2) :
    Calls Tryd.prog 11 #[.string S, .string q] w fun e w' => e = .returned (.bool true) ∧ Below w.heap.size w w' := by
  have HE := hid he
  clear he
  go_enter Tryd.func11, Tryd.ntmps11
  go_wp2
  go_loopw [5] (fun i wr => ∃ k : Nat, k ≤ q.size ∧ i = .int .i64 k ∧ Below w.heap.size w wr) (fun i _ => q.size - (intOf i).toNat)
  case atStart => exact ⟨0, by omega, rfl, Below.refl _ _⟩
  case round =>
    obtain ⟨k, hk, rfl, hb⟩ := hrel
    by_cases hlt : k < q.size
    · have hlt' : k < S.size := by omega
      have hi1 : (k : Int) < (q.size : Int) := by omega
      have hi2 : (0 : Int) ≤ (k : Int) := by omega
      have hi3 : (k : Int) < (S.size : Int) := by omega
      have hcmp : (((S[k]'hlt').toNat : Int) != ((q[k]'hlt).toNat : Int)) = false := by
        rw [HE.out k hlt' hlt]; simp
      go_wp2
      go_quiet (fail)
      go_wp2
      go_roundw
      case rel => exact ⟨k + 1, by omega, by go_num, below_drewN hb _⟩
      case measure => simp [intOf]; omega
    · go_wp2
      go_ret
      exact ⟨rfl, hb⟩
set_option maxHeartbeats 800000 in
theorem hasPrefix_no (S q : ByteArray) (w : World) (hs : S.size ≤ 1000000000) (hq0 : q.size ≤ 1000000000) (hS : 0 < S.size) (hq : 0 < q.size) (he : (S[0]'hS).toNat ≠ (q[0]'hq).toNat) :
    Calls Tryd.prog 11 #[.string S, .string q] w fun e w' => e = .returned (.bool false) ∧ Below w.heap.size w w' := by
  by_cases hlt : S.size < q.size
  · go_enter Tryd.func11, Tryd.ntmps11
    go_wp2
    go_ret
    exact ⟨rfl, Below.refl _ _⟩
  · have hcmp : (((S[0]'hS).toNat : Int) != ((q[0]'hq).toNat : Int)) = true := by
      simp only [bne_iff_ne]; omega
    have hi1 : (0 : Int) < (q.size : Int) := by omega
    have hi3 : (0 : Int) < (S.size : Int) := by omega
    clear he
    go_enter Tryd.func11, Tryd.ntmps11
    go_wp2
    go_loopw [5] (fun i wr => i = .int .i64 0 ∧ wr = w) (fun i _ => 0)
    case atStart => exact ⟨rfl, rfl⟩
    case round =>
      obtain ⟨rfl, rfl⟩ := hrel
      go_wp2
      go_quiet (fail)
      go_wp2
      go_ret
      exact ⟨rfl, below_drewN (Below.refl _ _) _⟩
end Go.Proofs.Qxb6003783aDoor.Stale
