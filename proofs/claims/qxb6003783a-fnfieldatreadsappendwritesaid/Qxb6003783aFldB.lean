import Derived.Test.Qxb6003783aFldA
namespace Go.Proofs.Qxb6003783a.Fld
open Go.RowKit Mem
set_option linter.unusedVariables false

/-- What 'Uvarint' answers at n bytes that begin as uv x does. -/
def uvR (x n : Nat) : Ending := .returned (.tuple #[.int .u64 ((if (uv x).length ≤ n then x else 0 : Nat) : Int), .int .i64 ((if (uv x).length ≤ n then (uv x).length else 0 : Nat) : Int)])
theorem uvR_short {x n : Nat} (h : n < (uv x).length) : Ending.returned (.tuple #[.int .u64 0, .int .i64 0]) = uvR x n := by
  unfold uvR; rw [if_neg (by omega), if_neg (by omega)]; rfl
theorem uvR_full {x n m : Nat} (h : (uv x).length = m) (hn : m ≤ n) (a b : Int) (ha : a = x) (hb : b = m) : Ending.returned (.tuple #[.int .u64 a, .int .i64 b]) = uvR x n := by
  unfold uvR; rw [if_pos (by omega), if_pos (by omega), h, ha, hb]

set_option maxRecDepth 100000 in
set_option maxHeartbeats 3200000 in
theorem uvarint_any (a : Option Addr) (n cap : Nat) (f : Nat → Int) (x : Nat) (w : World) (hr : Row w a n (fun k => .int .u8 (f k))) (hf : ∀ k, k < n → k < (uv x).length → f k = (uv x).getD k 0) (hx : x < 2097152) (hn : n ≤ 1000000000) :
    Calls Try.prog 16 #[.slice a n cap] w fun e w' => e = uvR x n ∧ w' = w := by
  have HF := hid hf
  clear hf
  go_enter Try.func16, Try.ntmps16
  go_wp2
  go_loop [4, 5, 10] (fun vx vs vi => ∃ k acc : Nat, vi = .int .i64 k ∧ vs = .int .u64 ((7 * k : Nat) : Int) ∧ vx = .int .u64 acc ∧ k ≤ n ∧ k < (uv x).length ∧ acc = x % 128 ^ k) (fun _ _ vi => n - (intOf vi).toNat)
  case atStart => exact ⟨0, 0, rfl, rfl, rfl, by omega, uv_pos x, by simp [Nat.mod_one]⟩
  case round =>
    obtain ⟨k, acc, rfl, rfl, rfl, hkn, hkl, hacc⟩ := hrel
    by_cases hk : k < n
    · rcases hr with h0 | ⟨b, off, rfl, hc⟩
      · omega
      have hck := hc k hk
      have hfk := HF.out k hk hkl
      simp only [hfk] at hck
      clear hc hfk HF
      by_cases h1 : x < 128
      · obtain rfl : k = 0 := by rw [uv_small h1] at hkl; simpa using hkl
        have hlen : (uv x).length = 1 := by rw [uv_small h1]; rfl
        have HU := hid (fun a b ha hb => uvR_full (n := n) hlen (by omega) a b ha hb)
        obtain ⟨b0, hb0⟩ : ∃ b0 : Nat, b0 = x := ⟨_, rfl⟩
        have hck2 : w.cell? ⟨b, off, none⟩ = some (.int .u8 (b0 : Int)) := by rw [hb0]; rw [uv_small h1] at hck; exact hck
        clear hck
        have hb : b0 < 128 := by omega
        obtain rfl : acc = 0 := by rw [hacc]; simp [Nat.mod_one]
        have hor : bits .or .u64 0 (b0 : Int) = (b0 : Int) := by rw [u64_orv0 _ _ (by omega) (by omega) (by omega) (by omega) (by omega)]; omega
        have HX : Hid ((b0 : Int) = (x : Int)) := by show _ = _; omega
        clear hacc hkl hb0 hlen
        go_wp2
        go_ret2
        exact ⟨HU.out _ _ HX.out (by omega), rfl⟩
      by_cases h2 : x < 16384
      · have hk2 : k = 0 ∨ k = 1 := by rw [uv_two (by omega) h2] at hkl; simp at hkl; omega
        rcases hk2 with rfl | rfl
        · have hlen : (uv x).length = 2 := by rw [uv_two (by omega) h2]; rfl
          obtain ⟨b0, hb0⟩ : ∃ b0 : Nat, b0 = x % 128 + 128 := ⟨_, rfl⟩
          have hck2 : w.cell? ⟨b, off, none⟩ = some (.int .u8 (b0 : Int)) := by rw [hb0]; rw [uv_two (by omega) h2] at hck; exact hck
          clear hck
          have hb : 128 ≤ b0 := by omega
          have hb256 : b0 < 256 := by omega
          obtain rfl : acc = 0 := by rw [hacc]; simp [Nat.mod_one]
          have hv : bits .or .u64 0 (IntKind.u64.wrap (IntKind.u64.wrap (bits .and .u8 (b0 : Int) 127))) = ((b0 % 128 : Nat) : Int) := by
            simp (disch := omega) only [u8_and127, u64_wrap_id, u64_orv0]
            omega
          have HX : Hid (b0 % 128 = x % 128 ^ 1) := by show _ = _; omega
          have HL : Hid (1 < (uv x).length) := by show _ < _; omega
          clear hacc hkl hb0 hlen
          go_wp2
          exact ⟨⟨1, b0 % 128, rfl, rfl, (by first | rfl | (congr 1; omega)), by omega, HL.out, HX.out⟩, by simp [intOf]; omega⟩
        · have hlen : (uv x).length = 2 := by rw [uv_two (by omega) h2]; rfl
          have HU := hid (fun a b ha hb => uvR_full (n := n) hlen (by omega) a b ha hb)
          obtain ⟨b0, hb0⟩ : ∃ b0 : Nat, b0 = x / 128 := ⟨_, rfl⟩
          have hck2 : w.cell? ⟨b, off + 1, none⟩ = some (.int .u8 (b0 : Int)) := by rw [hb0]; rw [uv_two (by omega) h2] at hck; exact hck
          clear hck
          have hb : b0 < 128 := by omega
          have hacc' : acc < 128 := by rw [hacc]; exact Nat.mod_lt _ (by decide)
          have hx2 : acc + b0 * 128 = x := by rw [hacc, hb0]; simp only [show (128 : Nat) ^ 1 = 128 from by decide]; omega
          have hor : bits .or .u64 (acc : Int) ((b0 : Int) * 128) = (acc : Int) + (b0 : Int) * 128 := by rw [u64_orv7 _ _ (by omega) (by omega) (by omega) (by omega) (by omega)]
          have HX : Hid ((acc : Int) + (b0 : Int) * 128 = (x : Int)) := by show _ = _; omega
          clear hacc hkl hb0 hlen
          go_wp2
          go_ret2
          exact ⟨HU.out _ _ HX.out (by omega), rfl⟩
      · have hk3 : k = 0 ∨ k = 1 ∨ k = 2 := by rw [uv_three (by omega) hx] at hkl; simp at hkl; omega
        rcases hk3 with rfl | rfl | rfl
        · have hlen : (uv x).length = 3 := by rw [uv_three (by omega) hx]; rfl
          obtain ⟨b0, hb0⟩ : ∃ b0 : Nat, b0 = x % 128 + 128 := ⟨_, rfl⟩
          have hck2 : w.cell? ⟨b, off, none⟩ = some (.int .u8 (b0 : Int)) := by rw [hb0]; rw [uv_three (by omega) hx] at hck; exact hck
          clear hck
          have hb : 128 ≤ b0 := by omega
          have hb256 : b0 < 256 := by omega
          obtain rfl : acc = 0 := by rw [hacc]; simp [Nat.mod_one]
          have hv : bits .or .u64 0 (IntKind.u64.wrap (IntKind.u64.wrap (bits .and .u8 (b0 : Int) 127))) = ((b0 % 128 : Nat) : Int) := by
            simp (disch := omega) only [u8_and127, u64_wrap_id, u64_orv0]
            omega
          have HX : Hid (b0 % 128 = x % 128 ^ 1) := by show _ = _; omega
          have HL : Hid (1 < (uv x).length) := by show _ < _; omega
          clear hacc hkl hb0 hlen
          go_wp2
          exact ⟨⟨1, b0 % 128, rfl, rfl, (by first | rfl | (congr 1; omega)), by omega, HL.out, HX.out⟩, by simp [intOf]; omega⟩
        · have hlen : (uv x).length = 3 := by rw [uv_three (by omega) hx]; rfl
          obtain ⟨b0, hb0⟩ : ∃ b0 : Nat, b0 = x / 128 % 128 + 128 := ⟨_, rfl⟩
          have hck2 : w.cell? ⟨b, off + 1, none⟩ = some (.int .u8 (b0 : Int)) := by rw [hb0]; rw [uv_three (by omega) hx] at hck; exact hck
          clear hck
          have hb : 128 ≤ b0 := by omega
          have hb256 : b0 < 256 := by omega
          have hacc' : acc < 128 := by rw [hacc]; exact Nat.mod_lt _ (by decide)
          have hv : bits .or .u64 (acc : Int) (IntKind.u64.wrap (IntKind.u64.wrap (bits .and .u8 (b0 : Int) 127) * 128)) = ((acc + b0 % 128 * 128 : Nat) : Int) := by
            simp (disch := omega) only [u8_and127, u64_wrap_id, u64_orv7]
            omega
          have HX : Hid (acc + b0 % 128 * 128 = x % 128 ^ 2) := by show _ = _; rw [hacc, hb0]; simp only [show (128 : Nat) ^ 1 = 128 from by decide, show (128 : Nat) ^ 2 = 16384 from by decide]; omega
          have HL : Hid (2 < (uv x).length) := by show _ < _; omega
          clear hacc hkl hb0 hlen
          go_wp2
          exact ⟨⟨2, acc + b0 % 128 * 128, rfl, rfl, (by first | rfl | (congr 1; omega)), by omega, HL.out, HX.out⟩, by simp [intOf]; omega⟩
        · have hlen : (uv x).length = 3 := by rw [uv_three (by omega) hx]; rfl
          have HU := hid (fun a b ha hb => uvR_full (n := n) hlen (by omega) a b ha hb)
          obtain ⟨b0, hb0⟩ : ∃ b0 : Nat, b0 = x / 128 / 128 := ⟨_, rfl⟩
          have hck2 : w.cell? ⟨b, off + 2, none⟩ = some (.int .u8 (b0 : Int)) := by rw [hb0]; rw [uv_three (by omega) hx] at hck; exact hck
          clear hck
          have hb : b0 < 128 := by omega
          have hacc' : acc < 16384 := by rw [hacc]; exact Nat.mod_lt _ (by decide)
          have hx2 : acc + b0 * 16384 = x := by rw [hacc, hb0]; simp only [show (128 : Nat) ^ 2 = 16384 from by decide]; omega
          have hor : bits .or .u64 (acc : Int) ((b0 : Int) * 16384) = (acc : Int) + (b0 : Int) * 16384 := by rw [u64_orv14 _ _ (by omega) (by omega) (by omega) (by omega) (by omega)]
          have HX : Hid ((acc : Int) + (b0 : Int) * 16384 = (x : Int)) := by show _ = _; omega
          clear hacc hkl hb0 hlen
          go_wp2
          go_ret2
          exact ⟨HU.out _ _ HX.out (by omega), rfl⟩
    · obtain rfl : k = n := by omega
      have HU := hid (uvR_short hkl)
      clear hacc hkl hr HF
      go_wp2
      go_ret2
      exact ⟨HU.out, rfl⟩
end Go.Proofs.Qxb6003783a.Fld
