import Derived.Test.Qxb6003707aRows
import Derived.WalkKit
import Derived.ProofKit
namespace Go.Proofs.Qxb6003707a.fnMagnitudeEvenAndMonotone
open Go.RowKit
set_option linter.unusedVariables false

theorem ret_int {k : IntKind} {a b : Int} (h : a = b) : Ending.returned (.int k a) = .returned (.int k b) := by rw [h]

def mag (c : Int) : Int := (c.natAbs : Int)
theorem mag_neg (c : Int) (h : c < 0) : mag c = -c := by unfold mag; omega
theorem mag_pos (c : Int) (h : 0 ≤ c) : mag c = c := by unfold mag; omega
theorem mag_min (c : Int) (h0 : -9223372036854775808 ≤ c) (hc : c < 0) : IntKind.u64.wrap (wrap64 (-c)) = mag c := by
  rw [mag_neg c hc]; simp only [wrap64, IntKind.wrap_u64]; omega

set_option maxHeartbeats 400000 in
theorem magnitude_any (c : Int) (w : World) (h0 : -9223372036854775808 ≤ c) (h1 : c ≤ 9223372036854775807) :
    Calls Try.prog 31 #[.int .i64 c] w fun e w' => e = .returned (.int .u64 (mag c)) ∧ w' = w := by
  by_cases hc : c < 0
  · have HM : Hid (IntKind.u64.wrap (wrap64 (-c)) = mag c) := mag_min c h0 hc
    go_enter Try.func31, Try.ntmps31
    go_wp2
    go_ret
    exact ⟨ret_int HM.out, rfl⟩
  · have hp : Hid (mag c = c) := mag_pos c (by omega)
    go_enter Try.func31, Try.ntmps31
    go_wp2
    go_ret
    exact ⟨ret_int hp.out.symm, rfl⟩
theorem zzmag_any (c : Int) (w : World) (h0 : -9223372036854775808 ≤ c) (h1 : c ≤ 9223372036854775807) :
    Calls Try.prog 10 #[.int .i64 c] w fun e w' => e = .returned (.int .u64 (mag c)) ∧ w' = w := by
  go_enter Try.func10, Try.ntmps10
  go_wp2_with (go_at_call 31; refine (magnitude_any _ _ h0 h1).mono ?_; rintro e w' ⟨rfl, rfl⟩)
  go_ret
  exact ⟨rfl, rfl⟩
theorem abs_any (c : Int) (w : World) (h0 : -9223372036854775808 ≤ c) (h1 : c ≤ 9223372036854775807) :
    Calls Try.prog 11 #[.int .i64 c] w fun e w' => e = .returned (.int .u64 (mag c)) ∧ w' = w := by
  by_cases hc : c < 0
  · have hp : Hid (mag c = -c) := mag_neg c (by omega)
    go_enter Try.func11, Try.ntmps11
    go_wp2
    go_ret
    exact ⟨ret_int (by rw [hp.out]; omega), rfl⟩
  · have hp : Hid (mag c = c) := mag_pos c (by omega)
    go_enter Try.func11, Try.ntmps11
    go_wp2
    go_ret
    exact ⟨ret_int hp.out.symm, rfl⟩
end Go.Proofs.Qxb6003707a.fnMagnitudeEvenAndMonotone
