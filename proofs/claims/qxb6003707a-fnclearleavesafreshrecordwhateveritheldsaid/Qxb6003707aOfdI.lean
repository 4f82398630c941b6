import Derived.Test.Qxb6003707aOfdH
import Derived.WalkSmall
namespace Go.Proofs.Qxb6003707a.Ofd
open Go.RowKit
set_option linter.unusedVariables false

theorem str_byte (B : List Int) (hrange : ∀ n ∈ B, 0 ≤ n ∧ n ≤ 255) (S : ByteArray) (hS : strOfNums B = S) (k : Nat) (h : k < S.size) : ((S[k]'h).toNat : Int) = B.getD k 0 := by
  subst hS
  have hk : k < B.length := by rw [strOfNums_size] at h; exact h
  have e : (strOfNums B)[k]'h = UInt8.ofNat (B[k]).toNat := by
    show (strOfNums B).data[k] = _
    simp [strOfNums]
  rw [e]
  have := hrange B[k] (List.getElem_mem hk)
  simp [List.getD, List.getElem?_eq_getElem hk]
  omega
set_option maxHeartbeats 400000 in
theorem sameText_any (a : Option Addr) (m cap : Nat) (B : List Int) (w : World) (hr : Row w a m (fun k => .int .u8 (B.getD k 0))) (hB : B.length = m) (hrange : ∀ n ∈ B, 0 ≤ n ∧ n ≤ 255) (hm : m ≤ 1000000) :
    Calls Try.prog 28 #[.string (strOfNums B), .slice a m cap] w fun e w' => e = .returned (.bool true) ∧ Below w.heap.size w w' := by
  have hsz : (strOfNums B).size = m := by rw [strOfNums_size, hB]
  generalize hS : strOfNums B = S at *
  have HS := show Hid _ from hS
  have hne : ((S.size : Int) != (m : Int)) = false := by rw [hsz]; simp
  clear hS
  go_enter Try.func28, Try.ntmps28
  go_wp2
  go_loopw [5] (fun i wr => ∃ k : Nat, k ≤ m ∧ i = .int .i64 k ∧ Below w.heap.size w wr) (fun i _ => m - (intOf i).toNat)
  case atStart => exact ⟨0, by omega, rfl, Below.refl _ _⟩
  case round =>
    obtain ⟨k, hk, rfl, hb⟩ := hrel
    by_cases hlt : k < m
    · rcases hr with h0 | ⟨b, off, rfl, hc⟩
      · omega
      · have hck := cell_later hb (hc k hlt)
        clear hc
        have hlt' : k < S.size := by omega
        have hi1 : (k : Int) < (m : Int) := by omega
        have hi2 : (0 : Int) ≤ (k : Int) := by omega
        have hi3 : (k : Int) < (S.size : Int) := by omega
        obtain ⟨X, hX⟩ : ∃ X, X = B.getD k 0 := ⟨_, rfl⟩
        have hcmp : (((S[k]'hlt').toNat : Int) != X) = false := by
          rw [str_byte B hrange S HS.out k hlt', hX]; simp
        have hck2 : wr.cell? ⟨b, off + k, none⟩ = some (.int .u8 X) := by rw [hX]; exact hck
        clear hck hX hB
        go_wp2
        go_quiet (fail)
        go_wp2
        go_roundw
        case rel => exact ⟨k + 1, by omega, by go_num, below_drewN hb _⟩
        case measure => simp [intOf]; omega
    · go_wp2
      go_ret
      exact ⟨rfl, hb⟩
end Go.Proofs.Qxb6003707a.Ofd
