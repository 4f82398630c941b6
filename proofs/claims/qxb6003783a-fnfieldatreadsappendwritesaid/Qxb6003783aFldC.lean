import Derived.Test.Qxb6003783aFldB
namespace Go.Proofs.Qxb6003783a.Fld
open Go.RowKit Mem
set_option linter.unusedVariables false

/-- Does the n bytes at hand hold the whole field of x bytes? -/
def fits (x n : Nat) : Bool := decide ((uv x).length + x ≤ n)
def fS (x n : Nat) (i : Nat) : Int := if fits x n then ((i + (uv x).length : Nat) : Int) else 0
def fE (x n : Nat) (i : Nat) : Int := if fits x n then ((i + (uv x).length + x : Nat) : Int) else 0

set_option maxRecDepth 100000 in
set_option maxHeartbeats 1600000 in
theorem fieldAt_any (a : Option Addr) (n cap i N : Nat) (f : Nat → Int) (x : Nat) (w : World) (hr : Row w a n (fun k => .int .u8 (f k))) (hf : ∀ k, k < n → k < (uv x).length → f k = (uv x).getD k 0) (hx : x < 2097152) (hn : n ≤ 100000000) (hN : N = i + n) (hi : i ≤ 100000000) :
    Calls Try.prog 15 #[.slice a n cap, .int .i64 i, .int .i64 N] w fun e w' => e = .returned (.tuple #[.agg #[.int .i64 (fS x n i), .int .i64 (fE x n i)], .bool (fits x n)]) ∧ Below w.heap.size w w' := by
  have hup := uv_pos x
  have hul := uv_len hx
  go_enter Try.func15, Try.ntmps15
  go_wp2_with fail
  refine (uvarint_any a n cap f x _ (hr.later ((Below.refl _ _).alloc (Nat.le_refl _) _)) hf hx (by omega)).mono ?_
  rintro e w1 ⟨rfl, hw1⟩
  subst hw1
  unfold uvR
  by_cases h1 : (uv x).length ≤ n
  · rw [if_pos h1, if_pos h1]
    by_cases h2 : (uv x).length + x ≤ n
    · have hs : Hid (fS x n i = ((i + (uv x).length : Nat) : Int)) := by show fS x n i = _; rw [fS, fits, decide_eq_true h2]; rfl
      have he : Hid (fE x n i = ((i + (uv x).length + x : Nat) : Int)) := by show fE x n i = _; rw [fE, fits, decide_eq_true h2]; rfl
      have hft : Hid (fits x n = true) := by show fits x n = true; rw [fits, decide_eq_true h2]
      generalize (uv x).length = L at *
      clear hf hr
      go_wp2
      exact bodyPost_ret (v := .tuple #[.agg #[.int .i64 ((i : Int) + L), .int .i64 ((i : Int) + L + x)], .bool true]) (by simp [results, Try.results15, go_sem]) rfl ⟨by rw [hs.out, he.out, hft.out]; simp, (Below.refl _ _).alloc (Nat.le_refl _) _⟩
    · have hs : Hid (fS x n i = 0) := by show fS x n i = _; rw [fS, fits, decide_eq_false h2]; rfl
      have he : Hid (fE x n i = 0) := by show fE x n i = _; rw [fE, fits, decide_eq_false h2]; rfl
      have hft : Hid (fits x n = false) := by show fits x n = false; rw [fits, decide_eq_false h2]
      generalize (uv x).length = L at *
      clear hf hr
      go_wp2
      exact bodyPost_ret (v := .tuple #[.agg #[.int .i64 0, .int .i64 0], .bool false]) (by simp [results, Try.results15, go_sem]) rfl ⟨by rw [hs.out, he.out, hft.out], (Below.refl _ _).alloc (Nat.le_refl _) _⟩
  · rw [if_neg h1, if_neg h1]
    have h2 : ¬ (uv x).length + x ≤ n := by omega
    have hs : Hid (fS x n i = 0) := by show fS x n i = _; rw [fS, fits, decide_eq_false h2]; rfl
    have he : Hid (fE x n i = 0) := by show fE x n i = _; rw [fE, fits, decide_eq_false h2]; rfl
    have hft : Hid (fits x n = false) := by show fits x n = false; rw [fits, decide_eq_false h2]
    generalize (uv x).length = L at *
    clear hf hr
    go_wp2
    exact bodyPost_ret (v := .tuple #[.agg #[.int .i64 0, .int .i64 0], .bool false]) (by simp [results, Try.results15, go_sem]) rfl ⟨by rw [hs.out, he.out, hft.out], (Below.refl _ _).alloc (Nat.le_refl _) _⟩

set_option maxRecDepth 100000 in
theorem zzfieldAt_any (a : Option Addr) (n cap i N : Nat) (f : Nat → Int) (x : Nat) (w : World) (hr : Row w a n (fun k => .int .u8 (f k))) (hf : ∀ k, k < n → k < (uv x).length → f k = (uv x).getD k 0) (hx : x < 2097152) (hn : n ≤ 100000000) (hN : N = i + n) (hi : i ≤ 100000000) :
    Calls Try.prog 11 #[.slice a n cap, .int .i64 i, .int .i64 N] w fun e w' => e = .returned (.tuple #[.int .i64 (fS x n i), .int .i64 (fE x n i), .bool (fits x n)]) ∧ Below w.heap.size w w' := by
  have HF := hid hf
  have HN := hid hN
  clear hf hN
  go_enter Try.func11, Try.ntmps11
  go_wp2_with fail
  refine (fieldAt_any a n cap i N f x _ hr HF.out hx hn HN.out hi).mono ?_
  rintro e w1 ⟨rfl, hb⟩
  have hs1 := hb.size
  go_wp2
  go_quiet (fail)
  go_wp2
  go_ret3
  exact ⟨rfl, below_drewN (hb.alloc (by omega) _) _⟩

set_option maxHeartbeats 800000 in
theorem bytesEqual_any (a a' : Option Addr) (n cap cap' : Nat) (f : Nat → Int) (w : World) (h : Row w a n (fun k => .int .u8 (f k))) (h' : Row w a' n (fun k => .int .u8 (f k))) (hn : n ≤ 100000000) :
    Calls Try.prog 10 #[.slice a n cap, .slice a' n cap'] w fun e w' => e = .returned (.bool true) ∧ Below w.heap.size w w' := by
  have hne : ((n : Int) != (n : Int)) = false := by simp
  go_enter Try.func10, Try.ntmps10
  go_wp2
  go_loopw [5] (fun i wr => ∃ k : Nat, k ≤ n ∧ i = .int .i64 k ∧ Below w.heap.size w wr) (fun i _ => n - (intOf i).toNat)
  case atStart => exact ⟨0, by omega, rfl, Below.refl _ _⟩
  case round =>
    obtain ⟨k, hk, rfl, hb⟩ := hrel
    by_cases hlt : k < n
    · rcases h with h0 | ⟨b, off, rfl, hc⟩
      · omega
      rcases h' with h0 | ⟨b', off', rfl, hc'⟩
      · omega
      have hck := cell_later hb (hc k hlt)
      have hck' := cell_later hb (hc' k hlt)
      have hi1 : (k : Int) < (n : Int) := by omega
      have hi2 : (0 : Int) ≤ (k : Int) := by omega
      have hcmp : (f k != f k) = false := by simp
      clear hc hc'
      go_wp2
      go_quiet (fail)
      go_wp2
      go_roundw
      case rel => exact ⟨k + 1, by omega, by go_num, below_drewN hb _⟩
      case measure => simp [intOf]; omega
    · go_wp2
      go_ret
      exact ⟨rfl, hb⟩

set_option maxHeartbeats 800000 in
theorem bytesEqualString_any (a : Option Addr) (cap : Nat) (S : ByteArray) (w : World) (hr : Row w a S.size (fun k => .int .u8 ((sb S).getD k 0))) (hm : S.size ≤ 1048576) :
    Calls Try.prog 12 #[.slice a S.size cap, .string S] w fun e w' => e = .returned (.bool true) ∧ Below w.heap.size w w' := by
  have hne : ((S.size : Int) != (S.size : Int)) = false := by simp
  go_enter Try.func12, Try.ntmps12
  go_wp2
  go_loopw [5] (fun i wr => ∃ k : Nat, k ≤ S.size ∧ i = .int .i64 k ∧ Below w.heap.size w wr) (fun i _ => S.size - (intOf i).toNat)
  case atStart => exact ⟨0, by omega, rfl, Below.refl _ _⟩
  case round =>
    obtain ⟨k, hk, rfl, hb⟩ := hrel
    by_cases hlt : k < S.size
    · rcases hr with h0 | ⟨b, off, rfl, hc⟩
      · omega
      · have hck := cell_later hb (hc k hlt)
        clear hc
        have hi1 : (k : Int) < (S.size : Int) := by omega
        have hi2 : (0 : Int) ≤ (k : Int) := by omega
        obtain ⟨X, hX⟩ : ∃ X, X = (sb S).getD k 0 := ⟨_, rfl⟩
        have hcmp : (X != ((S[k]'hlt).toNat : Int)) = false := by
          rw [sb_get S k hlt, hX]; simp
        have hck2 : wr.cell? ⟨b, off + k, none⟩ = some (.int .u8 X) := by rw [hX]; exact hck
        clear hck hX
        go_wp2
        go_quiet (fail)
        go_wp2
        go_roundw
        case rel => exact ⟨k + 1, by omega, by go_num, below_drewN hb _⟩
        case measure => simp [intOf]; omega
    · go_wp2
      go_ret
      exact ⟨rfl, hb⟩

theorem zzBytes_any (a : Option Addr) (n cap : Nat) (s t : ByteArray) (d : Bool) (w : World) (m : n ≤ 9223372036854775807) (hs : s.size ≤ 9223372036854775807) (ht : t.size ≤ 9223372036854775807) :
    Calls Try.prog 8 #[.slice a n cap, .string s, .string t, .bool d] w fun e w' => RetB e (fun x => x = true → n + s.size + t.size ≤ 1048576) ∧ w' = w := by
  by_cases h1 : 1048576 < n
  · go_enter Try.func8, Try.ntmps8
    go_wp2
    go_ret
    exact ⟨RetB.mk false (fun h => by cases h), rfl⟩
  by_cases h2 : 1048576 < s.size
  · go_enter Try.func8, Try.ntmps8
    go_wp2
    go_ret
    exact ⟨RetB.mk false (fun h => by cases h), rfl⟩
  by_cases h3 : 1048576 < n + s.size
  · go_enter Try.func8, Try.ntmps8
    go_wp2
    go_ret
    exact ⟨RetB.mk false (fun h => by cases h), rfl⟩
  by_cases h4 : 1048576 < t.size
  · go_enter Try.func8, Try.ntmps8
    go_wp2
    go_ret
    exact ⟨RetB.mk false (fun h => by cases h), rfl⟩
  by_cases h5 : 1048576 < n + s.size + t.size
  · go_enter Try.func8, Try.ntmps8
    go_wp2
    go_ret
    exact ⟨RetB.mk false (fun h => by cases h), rfl⟩
  · go_enter Try.func8, Try.ntmps8
    go_wp2
    go_ret
    exact ⟨RetB.mk true (fun _ => by omega), rfl⟩
end Go.Proofs.Qxb6003783a.Fld
