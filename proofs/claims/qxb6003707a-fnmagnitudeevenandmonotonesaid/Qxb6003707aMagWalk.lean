import Derived.Test.Qxb6003707aMag
namespace Go.Proofs.Qxb6003707a.fnMagnitudeEvenAndMonotone
open Go.RowKit
set_option linter.unusedVariables false

theorem mag_range (c : Int) (h0 : -9223372036854775808 ≤ c) (h1 : c ≤ 9223372036854775807) : 0 ≤ mag c ∧ mag c ≤ 9223372036854775808 := by unfold mag; omega
theorem ret_eq {a b : Int} (h : a = b) : Ending.returned (.bool (a == b)) = .returned (.bool true) := by subst h; simp

set_option maxHeartbeats 400000 in
theorem walk_core (a b : Int) (w : World) (l0 : -9223372036854775808 ≤ a) (u0 : a ≤ 9223372036854775807) (l1 : -9223372036854775808 ≤ b) (u1 : b ≤ 9223372036854775807) :
    Calls Try.prog 4 #[.int .i64 a, .int .i64 b] w fun e w' => e = .returned (.bool true) ∧ w' = w := by
  obtain ⟨r0, r1⟩ := mag_range b l1 u1
  rcases Int.lt_trichotomy a 0 with hs | hs | hs
  · have e0 := mag_neg a hs
    by_cases hm : a ≤ -9223372036854775808
    · have E0 : Hid (mag (-9223372036854775808) = 9223372036854775808) := by unfold mag Hid; omega
      by_cases hab : b ≤ a
      · have hbe := mag_neg b (by omega)
        go_enter Try.func4, Try.ntmps4
        go_wp2_with (first | (go_at_call 10; refine (zzmag_any _ _ (by omega) (by omega)).mono ?_; rintro e w' ⟨rfl, rfl⟩) | (go_at_call 11; refine (abs_any _ _ (by omega) (by omega)).mono ?_; rintro e w' ⟨rfl, rfl⟩))
        all_goals go_ret
        all_goals exact ⟨ret_eq E0.out.symm, rfl⟩
      · go_enter Try.func4, Try.ntmps4
        go_wp2_with (first | (go_at_call 10; refine (zzmag_any _ _ (by omega) (by omega)).mono ?_; rintro e w' ⟨rfl, rfl⟩) | (go_at_call 11; refine (abs_any _ _ (by omega) (by omega)).mono ?_; rintro e w' ⟨rfl, rfl⟩))
        all_goals go_ret
        all_goals exact ⟨ret_eq E0.out.symm, rfl⟩
    · have e1 := mag_pos (-a) (by omega)
      have hz1 : (!(-a == 0) == (a == 0)) = false := by
        have x1 : (-a == 0) = false := by simp; omega
        have x2 : (a == 0) = false := by simp; omega
        rw [x1, x2]; rfl
      by_cases hab : b ≤ a
      · have hbe := mag_neg b (by omega)
        go_enter Try.func4, Try.ntmps4
        go_wp2_with (first | (go_at_call 10; refine (zzmag_any _ _ (by omega) (by omega)).mono ?_; rintro e w' ⟨rfl, rfl⟩) | (go_at_call 11; refine (abs_any _ _ (by omega) (by omega)).mono ?_; rintro e w' ⟨rfl, rfl⟩))
        all_goals go_ret
        all_goals exact ⟨rfl, rfl⟩
      · go_enter Try.func4, Try.ntmps4
        go_wp2_with (first | (go_at_call 10; refine (zzmag_any _ _ (by omega) (by omega)).mono ?_; rintro e w' ⟨rfl, rfl⟩) | (go_at_call 11; refine (abs_any _ _ (by omega) (by omega)).mono ?_; rintro e w' ⟨rfl, rfl⟩))
        all_goals go_ret
        all_goals exact ⟨rfl, rfl⟩
  · subst hs
    have e0 := mag_pos 0 (by omega)
    go_enter Try.func4, Try.ntmps4
    go_wp2_with (first | (go_at_call 10; refine (zzmag_any _ _ (by omega) (by omega)).mono ?_; rintro e w' ⟨rfl, rfl⟩) | (go_at_call 11; refine (abs_any _ _ (by omega) (by omega)).mono ?_; rintro e w' ⟨rfl, rfl⟩))
    all_goals go_ret
    all_goals exact ⟨rfl, rfl⟩
  · have e0 := mag_pos a (by omega)
    have e1 := mag_neg (-a) (by omega)
    by_cases hab : a ≤ b
    · have hbe := mag_pos b (by omega)
      go_enter Try.func4, Try.ntmps4
      go_wp2_with (first | (go_at_call 10; refine (zzmag_any _ _ (by omega) (by omega)).mono ?_; rintro e w' ⟨rfl, rfl⟩) | (go_at_call 11; refine (abs_any _ _ (by omega) (by omega)).mono ?_; rintro e w' ⟨rfl, rfl⟩))
      all_goals go_ret
      all_goals exact ⟨rfl, rfl⟩
    · go_enter Try.func4, Try.ntmps4
      go_wp2_with (first | (go_at_call 10; refine (zzmag_any _ _ (by omega) (by omega)).mono ?_; rintro e w' ⟨rfl, rfl⟩) | (go_at_call 11; refine (abs_any _ _ (by omega) (by omega)).mono ?_; rintro e w' ⟨rfl, rfl⟩))
      all_goals go_ret
      all_goals exact ⟨rfl, rfl⟩
end Go.Proofs.Qxb6003707a.fnMagnitudeEvenAndMonotone
