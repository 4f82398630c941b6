import Derived.Test.Qxb6003729aNumA
import Derived.Test.Qxb6003729aNumLawPlain
namespace Go.Proofs.Qxb6003729a.Num
open Go.RowKit Mem
set_option linter.unusedVariables false
set_option linter.unusedSimpArgs false

set_option maxHeartbeats 2000000 in
theorem step_lit43 (s : Nat) (w : World) (h : s ≤ 8) : Calls Try.prog 11 #[.int .i64 s, .int .u8 43] w fun e w' => e = .returned (.int .i64 (step s 43)) ∧ w' = w := by
  match s, h with
  | 0, _ =>
    have E : Hid (step 0 43 = step 0 43) := rfl
    go_enter Try.func11, Try.ntmps11
    go_wp2
    go_ret
    exact ⟨rfl, rfl⟩
  | 1, _ =>
    have E : Hid (step 1 43 = step 1 43) := rfl
    go_enter Try.func11, Try.ntmps11
    go_wp2
    go_ret
    exact ⟨rfl, rfl⟩
  | 2, _ =>
    have E : Hid (step 2 43 = step 2 43) := rfl
    go_enter Try.func11, Try.ntmps11
    go_wp2
    go_ret
    exact ⟨rfl, rfl⟩
  | 3, _ =>
    have E : Hid (step 3 43 = step 3 43) := rfl
    go_enter Try.func11, Try.ntmps11
    go_wp2
    go_ret
    exact ⟨rfl, rfl⟩
  | 4, _ =>
    have E : Hid (step 4 43 = step 4 43) := rfl
    go_enter Try.func11, Try.ntmps11
    go_wp2
    go_ret
    exact ⟨rfl, rfl⟩
  | 5, _ =>
    have E : Hid (step 5 43 = step 5 43) := rfl
    go_enter Try.func11, Try.ntmps11
    go_wp2
    go_ret
    exact ⟨rfl, rfl⟩
  | 6, _ =>
    have E : Hid (step 6 43 = step 6 43) := rfl
    go_enter Try.func11, Try.ntmps11
    go_wp2
    go_ret
    exact ⟨rfl, rfl⟩
  | 7, _ =>
    have E : Hid (step 7 43 = step 7 43) := rfl
    go_enter Try.func11, Try.ntmps11
    go_wp2
    go_ret
    exact ⟨rfl, rfl⟩
  | 8, _ =>
    have E : Hid (step 8 43 = step 8 43) := rfl
    go_enter Try.func11, Try.ntmps11
    go_wp2
    go_ret
    exact ⟨rfl, rfl⟩

set_option maxHeartbeats 2000000 in
theorem step_lit45 (s : Nat) (w : World) (h : s ≤ 8) : Calls Try.prog 11 #[.int .i64 s, .int .u8 45] w fun e w' => e = .returned (.int .i64 (step s 45)) ∧ w' = w := by
  match s, h with
  | 0, _ =>
    have E : Hid (step 0 45 = step 0 45) := rfl
    go_enter Try.func11, Try.ntmps11
    go_wp2
    go_ret
    exact ⟨rfl, rfl⟩
  | 1, _ =>
    have E : Hid (step 1 45 = step 1 45) := rfl
    go_enter Try.func11, Try.ntmps11
    go_wp2
    go_ret
    exact ⟨rfl, rfl⟩
  | 2, _ =>
    have E : Hid (step 2 45 = step 2 45) := rfl
    go_enter Try.func11, Try.ntmps11
    go_wp2
    go_ret
    exact ⟨rfl, rfl⟩
  | 3, _ =>
    have E : Hid (step 3 45 = step 3 45) := rfl
    go_enter Try.func11, Try.ntmps11
    go_wp2
    go_ret
    exact ⟨rfl, rfl⟩
  | 4, _ =>
    have E : Hid (step 4 45 = step 4 45) := rfl
    go_enter Try.func11, Try.ntmps11
    go_wp2
    go_ret
    exact ⟨rfl, rfl⟩
  | 5, _ =>
    have E : Hid (step 5 45 = step 5 45) := rfl
    go_enter Try.func11, Try.ntmps11
    go_wp2
    go_ret
    exact ⟨rfl, rfl⟩
  | 6, _ =>
    have E : Hid (step 6 45 = step 6 45) := rfl
    go_enter Try.func11, Try.ntmps11
    go_wp2
    go_ret
    exact ⟨rfl, rfl⟩
  | 7, _ =>
    have E : Hid (step 7 45 = step 7 45) := rfl
    go_enter Try.func11, Try.ntmps11
    go_wp2
    go_ret
    exact ⟨rfl, rfl⟩
  | 8, _ =>
    have E : Hid (step 8 45 = step 8 45) := rfl
    go_enter Try.func11, Try.ntmps11
    go_wp2
    go_ret
    exact ⟨rfl, rfl⟩

set_option maxHeartbeats 2000000 in
theorem step_lit46 (s : Nat) (w : World) (h : s ≤ 8) : Calls Try.prog 11 #[.int .i64 s, .int .u8 46] w fun e w' => e = .returned (.int .i64 (step s 46)) ∧ w' = w := by
  match s, h with
  | 0, _ =>
    have E : Hid (step 0 46 = step 0 46) := rfl
    go_enter Try.func11, Try.ntmps11
    go_wp2
    go_ret
    exact ⟨rfl, rfl⟩
  | 1, _ =>
    have E : Hid (step 1 46 = step 1 46) := rfl
    go_enter Try.func11, Try.ntmps11
    go_wp2
    go_ret
    exact ⟨rfl, rfl⟩
  | 2, _ =>
    have E : Hid (step 2 46 = step 2 46) := rfl
    go_enter Try.func11, Try.ntmps11
    go_wp2
    go_ret
    exact ⟨rfl, rfl⟩
  | 3, _ =>
    have E : Hid (step 3 46 = step 3 46) := rfl
    go_enter Try.func11, Try.ntmps11
    go_wp2
    go_ret
    exact ⟨rfl, rfl⟩
  | 4, _ =>
    have E : Hid (step 4 46 = step 4 46) := rfl
    go_enter Try.func11, Try.ntmps11
    go_wp2
    go_ret
    exact ⟨rfl, rfl⟩
  | 5, _ =>
    have E : Hid (step 5 46 = step 5 46) := rfl
    go_enter Try.func11, Try.ntmps11
    go_wp2
    go_ret
    exact ⟨rfl, rfl⟩
  | 6, _ =>
    have E : Hid (step 6 46 = step 6 46) := rfl
    go_enter Try.func11, Try.ntmps11
    go_wp2
    go_ret
    exact ⟨rfl, rfl⟩
  | 7, _ =>
    have E : Hid (step 7 46 = step 7 46) := rfl
    go_enter Try.func11, Try.ntmps11
    go_wp2
    go_ret
    exact ⟨rfl, rfl⟩
  | 8, _ =>
    have E : Hid (step 8 46 = step 8 46) := rfl
    go_enter Try.func11, Try.ntmps11
    go_wp2
    go_ret
    exact ⟨rfl, rfl⟩

set_option maxHeartbeats 2000000 in
theorem step_lit48 (s : Nat) (w : World) (h : s ≤ 8) : Calls Try.prog 11 #[.int .i64 s, .int .u8 48] w fun e w' => e = .returned (.int .i64 (step s 48)) ∧ w' = w := by
  match s, h with
  | 0, _ =>
    have E : Hid (step 0 48 = step 0 48) := rfl
    go_enter Try.func11, Try.ntmps11
    go_wp2
    go_ret
    exact ⟨rfl, rfl⟩
  | 1, _ =>
    have E : Hid (step 1 48 = step 1 48) := rfl
    go_enter Try.func11, Try.ntmps11
    go_wp2
    go_ret
    exact ⟨rfl, rfl⟩
  | 2, _ =>
    have E : Hid (step 2 48 = step 2 48) := rfl
    go_enter Try.func11, Try.ntmps11
    go_wp2
    go_ret
    exact ⟨rfl, rfl⟩
  | 3, _ =>
    have E : Hid (step 3 48 = step 3 48) := rfl
    go_enter Try.func11, Try.ntmps11
    go_wp2
    go_ret
    exact ⟨rfl, rfl⟩
  | 4, _ =>
    have E : Hid (step 4 48 = step 4 48) := rfl
    go_enter Try.func11, Try.ntmps11
    go_wp2
    go_ret
    exact ⟨rfl, rfl⟩
  | 5, _ =>
    have E : Hid (step 5 48 = step 5 48) := rfl
    go_enter Try.func11, Try.ntmps11
    go_wp2
    go_ret
    exact ⟨rfl, rfl⟩
  | 6, _ =>
    have E : Hid (step 6 48 = step 6 48) := rfl
    go_enter Try.func11, Try.ntmps11
    go_wp2
    go_ret
    exact ⟨rfl, rfl⟩
  | 7, _ =>
    have E : Hid (step 7 48 = step 7 48) := rfl
    go_enter Try.func11, Try.ntmps11
    go_wp2
    go_ret
    exact ⟨rfl, rfl⟩
  | 8, _ =>
    have E : Hid (step 8 48 = step 8 48) := rfl
    go_enter Try.func11, Try.ntmps11
    go_wp2
    go_ret
    exact ⟨rfl, rfl⟩

set_option maxHeartbeats 2000000 in
theorem step_lit69 (s : Nat) (w : World) (h : s ≤ 8) : Calls Try.prog 11 #[.int .i64 s, .int .u8 69] w fun e w' => e = .returned (.int .i64 (step s 69)) ∧ w' = w := by
  match s, h with
  | 0, _ =>
    have E : Hid (step 0 69 = step 0 69) := rfl
    go_enter Try.func11, Try.ntmps11
    go_wp2
    go_ret
    exact ⟨rfl, rfl⟩
  | 1, _ =>
    have E : Hid (step 1 69 = step 1 69) := rfl
    go_enter Try.func11, Try.ntmps11
    go_wp2
    go_ret
    exact ⟨rfl, rfl⟩
  | 2, _ =>
    have E : Hid (step 2 69 = step 2 69) := rfl
    go_enter Try.func11, Try.ntmps11
    go_wp2
    go_ret
    exact ⟨rfl, rfl⟩
  | 3, _ =>
    have E : Hid (step 3 69 = step 3 69) := rfl
    go_enter Try.func11, Try.ntmps11
    go_wp2
    go_ret
    exact ⟨rfl, rfl⟩
  | 4, _ =>
    have E : Hid (step 4 69 = step 4 69) := rfl
    go_enter Try.func11, Try.ntmps11
    go_wp2
    go_ret
    exact ⟨rfl, rfl⟩
  | 5, _ =>
    have E : Hid (step 5 69 = step 5 69) := rfl
    go_enter Try.func11, Try.ntmps11
    go_wp2
    go_ret
    exact ⟨rfl, rfl⟩
  | 6, _ =>
    have E : Hid (step 6 69 = step 6 69) := rfl
    go_enter Try.func11, Try.ntmps11
    go_wp2
    go_ret
    exact ⟨rfl, rfl⟩
  | 7, _ =>
    have E : Hid (step 7 69 = step 7 69) := rfl
    go_enter Try.func11, Try.ntmps11
    go_wp2
    go_ret
    exact ⟨rfl, rfl⟩
  | 8, _ =>
    have E : Hid (step 8 69 = step 8 69) := rfl
    go_enter Try.func11, Try.ntmps11
    go_wp2
    go_ret
    exact ⟨rfl, rfl⟩

set_option maxHeartbeats 2000000 in
theorem step_lit101 (s : Nat) (w : World) (h : s ≤ 8) : Calls Try.prog 11 #[.int .i64 s, .int .u8 101] w fun e w' => e = .returned (.int .i64 (step s 101)) ∧ w' = w := by
  match s, h with
  | 0, _ =>
    have E : Hid (step 0 101 = step 0 101) := rfl
    go_enter Try.func11, Try.ntmps11
    go_wp2
    go_ret
    exact ⟨rfl, rfl⟩
  | 1, _ =>
    have E : Hid (step 1 101 = step 1 101) := rfl
    go_enter Try.func11, Try.ntmps11
    go_wp2
    go_ret
    exact ⟨rfl, rfl⟩
  | 2, _ =>
    have E : Hid (step 2 101 = step 2 101) := rfl
    go_enter Try.func11, Try.ntmps11
    go_wp2
    go_ret
    exact ⟨rfl, rfl⟩
  | 3, _ =>
    have E : Hid (step 3 101 = step 3 101) := rfl
    go_enter Try.func11, Try.ntmps11
    go_wp2
    go_ret
    exact ⟨rfl, rfl⟩
  | 4, _ =>
    have E : Hid (step 4 101 = step 4 101) := rfl
    go_enter Try.func11, Try.ntmps11
    go_wp2
    go_ret
    exact ⟨rfl, rfl⟩
  | 5, _ =>
    have E : Hid (step 5 101 = step 5 101) := rfl
    go_enter Try.func11, Try.ntmps11
    go_wp2
    go_ret
    exact ⟨rfl, rfl⟩
  | 6, _ =>
    have E : Hid (step 6 101 = step 6 101) := rfl
    go_enter Try.func11, Try.ntmps11
    go_wp2
    go_ret
    exact ⟨rfl, rfl⟩
  | 7, _ =>
    have E : Hid (step 7 101 = step 7 101) := rfl
    go_enter Try.func11, Try.ntmps11
    go_wp2
    go_ret
    exact ⟨rfl, rfl⟩
  | 8, _ =>
    have E : Hid (step 8 101 = step 8 101) := rfl
    go_enter Try.func11, Try.ntmps11
    go_wp2
    go_ret
    exact ⟨rfl, rfl⟩

set_option maxHeartbeats 2000000 in
theorem step_dig (s : Nat) (c : Int) (w : World) (h : s ≤ 8) (h1 : 49 ≤ c) (h2 : c ≤ 57) : Calls Try.prog 11 #[.int .i64 s, .int .u8 c] w fun e w' => e = .returned (.int .i64 (step s c)) ∧ w' = w := by
  have sD : isD c = true := by simp [isD]; omega
  have sE : ex c = false := by simp [ex]; omega
  have sS : sg c = false := by simp [sg]; omega
  have n45 : ¬ c = 45 := by omega
  have n48 : ¬ c = 48 := by omega
  have n46 : ¬ c = 46 := by omega
  have g1 : (c == 45) = false := by simp; omega
  have g2 : (c == 48) = false := by simp; omega
  have g3 : (c == 101) = false := by simp; omega
  have g4 : (c == 69) = false := by simp; omega
  have g5 : (c == 46) = false := by simp; omega
  have g6 : (c == 43) = false := by simp; omega
  match s, h with
  | 0, _ =>
    have E : Hid (step 0 c = 3) := by show step 0 c = 3; simp [step, sD, sE, sS, n45, n48, n46]
    clear sD sE sS n45 n48 n46
    go_enter Try.func11, Try.ntmps11
    go_wp2
    go_ret
    exact ⟨ret_int E.out.symm, rfl⟩
  | 1, _ =>
    have E : Hid (step 1 c = 3) := by show step 1 c = 3; simp [step, sD, sE, sS, n45, n48, n46]
    clear sD sE sS n45 n48 n46
    go_enter Try.func11, Try.ntmps11
    go_wp2
    go_ret
    exact ⟨ret_int E.out.symm, rfl⟩
  | 2, _ =>
    have E : Hid (step 2 c = -1) := by show step 2 c = -1; simp [step, sD, sE, sS, n45, n48, n46]
    clear sD sE sS n45 n48 n46
    go_enter Try.func11, Try.ntmps11
    go_wp2
    go_ret
    exact ⟨ret_int E.out.symm, rfl⟩
  | 3, _ =>
    have E : Hid (step 3 c = 3) := by show step 3 c = 3; simp [step, sD, sE, sS, n45, n48, n46]
    clear sD sE sS n45 n48 n46
    go_enter Try.func11, Try.ntmps11
    go_wp2
    go_ret
    exact ⟨ret_int E.out.symm, rfl⟩
  | 4, _ =>
    have E : Hid (step 4 c = 5) := by show step 4 c = 5; simp [step, sD, sE, sS, n45, n48, n46]
    clear sD sE sS n45 n48 n46
    go_enter Try.func11, Try.ntmps11
    go_wp2
    go_ret
    exact ⟨ret_int E.out.symm, rfl⟩
  | 5, _ =>
    have E : Hid (step 5 c = 5) := by show step 5 c = 5; simp [step, sD, sE, sS, n45, n48, n46]
    clear sD sE sS n45 n48 n46
    go_enter Try.func11, Try.ntmps11
    go_wp2
    go_ret
    exact ⟨ret_int E.out.symm, rfl⟩
  | 6, _ =>
    have E : Hid (step 6 c = 8) := by show step 6 c = 8; simp [step, sD, sE, sS, n45, n48, n46]
    clear sD sE sS n45 n48 n46
    go_enter Try.func11, Try.ntmps11
    go_wp2
    go_ret
    exact ⟨ret_int E.out.symm, rfl⟩
  | 7, _ =>
    have E : Hid (step 7 c = 8) := by show step 7 c = 8; simp [step, sD, sE, sS, n45, n48, n46]
    clear sD sE sS n45 n48 n46
    go_enter Try.func11, Try.ntmps11
    go_wp2
    go_ret
    exact ⟨ret_int E.out.symm, rfl⟩
  | 8, _ =>
    have E : Hid (step 8 c = 8) := by show step 8 c = 8; simp [step, sD, sE, sS, n45, n48, n46]
    clear sD sE sS n45 n48 n46
    go_enter Try.func11, Try.ntmps11
    go_wp2
    go_ret
    exact ⟨ret_int E.out.symm, rfl⟩

set_option maxHeartbeats 2000000 in
theorem step_low (s : Nat) (c : Int) (w : World) (h : s ≤ 8) (h1 : c < 48) (q1 : ¬ c = 43) (q2 : ¬ c = 45) (q3 : ¬ c = 46) : Calls Try.prog 11 #[.int .i64 s, .int .u8 c] w fun e w' => e = .returned (.int .i64 (step s c)) ∧ w' = w := by
  have sD : isD c = false := by simp [isD]; omega
  have sE : ex c = false := by simp [ex]; omega
  have sS : sg c = false := by simp [sg]; omega
  have n45 : ¬ c = 45 := by omega
  have n48 : ¬ c = 48 := by omega
  have n46 : ¬ c = 46 := by omega
  have g1 : (c == 45) = false := by simp; omega
  have g2 : (c == 48) = false := by simp; omega
  have g3 : (c == 101) = false := by simp; omega
  have g4 : (c == 69) = false := by simp; omega
  have g5 : (c == 46) = false := by simp; omega
  have g6 : (c == 43) = false := by simp; omega
  match s, h with
  | 0, _ =>
    have E : Hid (step 0 c = -1) := by show step 0 c = -1; simp [step, sD, sE, sS, n45, n48, n46]
    clear sD sE sS n45 n48 n46
    go_enter Try.func11, Try.ntmps11
    go_wp2
    go_ret
    exact ⟨ret_int E.out.symm, rfl⟩
  | 1, _ =>
    have E : Hid (step 1 c = -1) := by show step 1 c = -1; simp [step, sD, sE, sS, n45, n48, n46]
    clear sD sE sS n45 n48 n46
    go_enter Try.func11, Try.ntmps11
    go_wp2
    go_ret
    exact ⟨ret_int E.out.symm, rfl⟩
  | 2, _ =>
    have E : Hid (step 2 c = -1) := by show step 2 c = -1; simp [step, sD, sE, sS, n45, n48, n46]
    clear sD sE sS n45 n48 n46
    go_enter Try.func11, Try.ntmps11
    go_wp2
    go_ret
    exact ⟨ret_int E.out.symm, rfl⟩
  | 3, _ =>
    have E : Hid (step 3 c = -1) := by show step 3 c = -1; simp [step, sD, sE, sS, n45, n48, n46]
    clear sD sE sS n45 n48 n46
    go_enter Try.func11, Try.ntmps11
    go_wp2
    go_ret
    exact ⟨ret_int E.out.symm, rfl⟩
  | 4, _ =>
    have E : Hid (step 4 c = -1) := by show step 4 c = -1; simp [step, sD, sE, sS, n45, n48, n46]
    clear sD sE sS n45 n48 n46
    go_enter Try.func11, Try.ntmps11
    go_wp2
    go_ret
    exact ⟨ret_int E.out.symm, rfl⟩
  | 5, _ =>
    have E : Hid (step 5 c = -1) := by show step 5 c = -1; simp [step, sD, sE, sS, n45, n48, n46]
    clear sD sE sS n45 n48 n46
    go_enter Try.func11, Try.ntmps11
    go_wp2
    go_ret
    exact ⟨ret_int E.out.symm, rfl⟩
  | 6, _ =>
    have E : Hid (step 6 c = -1) := by show step 6 c = -1; simp [step, sD, sE, sS, n45, n48, n46]
    clear sD sE sS n45 n48 n46
    go_enter Try.func11, Try.ntmps11
    go_wp2
    go_ret
    exact ⟨ret_int E.out.symm, rfl⟩
  | 7, _ =>
    have E : Hid (step 7 c = -1) := by show step 7 c = -1; simp [step, sD, sE, sS, n45, n48, n46]
    clear sD sE sS n45 n48 n46
    go_enter Try.func11, Try.ntmps11
    go_wp2
    go_ret
    exact ⟨ret_int E.out.symm, rfl⟩
  | 8, _ =>
    have E : Hid (step 8 c = -1) := by show step 8 c = -1; simp [step, sD, sE, sS, n45, n48, n46]
    clear sD sE sS n45 n48 n46
    go_enter Try.func11, Try.ntmps11
    go_wp2
    go_ret
    exact ⟨ret_int E.out.symm, rfl⟩

set_option maxHeartbeats 2000000 in
theorem step_high (s : Nat) (c : Int) (w : World) (h : s ≤ 8) (h1 : 57 < c) (q1 : ¬ c = 69) (q2 : ¬ c = 101) : Calls Try.prog 11 #[.int .i64 s, .int .u8 c] w fun e w' => e = .returned (.int .i64 (step s c)) ∧ w' = w := by
  have sD : isD c = false := by simp [isD]; omega
  have sE : ex c = false := by simp [ex]; omega
  have sS : sg c = false := by simp [sg]; omega
  have n45 : ¬ c = 45 := by omega
  have n48 : ¬ c = 48 := by omega
  have n46 : ¬ c = 46 := by omega
  have g1 : (c == 45) = false := by simp; omega
  have g2 : (c == 48) = false := by simp; omega
  have g3 : (c == 101) = false := by simp; omega
  have g4 : (c == 69) = false := by simp; omega
  have g5 : (c == 46) = false := by simp; omega
  have g6 : (c == 43) = false := by simp; omega
  match s, h with
  | 0, _ =>
    have E : Hid (step 0 c = -1) := by show step 0 c = -1; simp [step, sD, sE, sS, n45, n48, n46]
    clear sD sE sS n45 n48 n46
    go_enter Try.func11, Try.ntmps11
    go_wp2
    go_ret
    exact ⟨ret_int E.out.symm, rfl⟩
  | 1, _ =>
    have E : Hid (step 1 c = -1) := by show step 1 c = -1; simp [step, sD, sE, sS, n45, n48, n46]
    clear sD sE sS n45 n48 n46
    go_enter Try.func11, Try.ntmps11
    go_wp2
    go_ret
    exact ⟨ret_int E.out.symm, rfl⟩
  | 2, _ =>
    have E : Hid (step 2 c = -1) := by show step 2 c = -1; simp [step, sD, sE, sS, n45, n48, n46]
    clear sD sE sS n45 n48 n46
    go_enter Try.func11, Try.ntmps11
    go_wp2
    go_ret
    exact ⟨ret_int E.out.symm, rfl⟩
  | 3, _ =>
    have E : Hid (step 3 c = -1) := by show step 3 c = -1; simp [step, sD, sE, sS, n45, n48, n46]
    clear sD sE sS n45 n48 n46
    go_enter Try.func11, Try.ntmps11
    go_wp2
    go_ret
    exact ⟨ret_int E.out.symm, rfl⟩
  | 4, _ =>
    have E : Hid (step 4 c = -1) := by show step 4 c = -1; simp [step, sD, sE, sS, n45, n48, n46]
    clear sD sE sS n45 n48 n46
    go_enter Try.func11, Try.ntmps11
    go_wp2
    go_ret
    exact ⟨ret_int E.out.symm, rfl⟩
  | 5, _ =>
    have E : Hid (step 5 c = -1) := by show step 5 c = -1; simp [step, sD, sE, sS, n45, n48, n46]
    clear sD sE sS n45 n48 n46
    go_enter Try.func11, Try.ntmps11
    go_wp2
    go_ret
    exact ⟨ret_int E.out.symm, rfl⟩
  | 6, _ =>
    have E : Hid (step 6 c = -1) := by show step 6 c = -1; simp [step, sD, sE, sS, n45, n48, n46]
    clear sD sE sS n45 n48 n46
    go_enter Try.func11, Try.ntmps11
    go_wp2
    go_ret
    exact ⟨ret_int E.out.symm, rfl⟩
  | 7, _ =>
    have E : Hid (step 7 c = -1) := by show step 7 c = -1; simp [step, sD, sE, sS, n45, n48, n46]
    clear sD sE sS n45 n48 n46
    go_enter Try.func11, Try.ntmps11
    go_wp2
    go_ret
    exact ⟨ret_int E.out.symm, rfl⟩
  | 8, _ =>
    have E : Hid (step 8 c = -1) := by show step 8 c = -1; simp [step, sD, sE, sS, n45, n48, n46]
    clear sD sE sS n45 n48 n46
    go_enter Try.func11, Try.ntmps11
    go_wp2
    go_ret
    exact ⟨ret_int E.out.symm, rfl⟩

theorem step_any (s : Nat) (c : Int) (w : World) (h : s ≤ 8) : Calls Try.prog 11 #[.int .i64 s, .int .u8 c] w fun e w' => e = .returned (.int .i64 (step s c)) ∧ w' = w := by
  by_cases q43 : c = 43
  · subst q43; exact step_lit43 s w h
  by_cases q45 : c = 45
  · subst q45; exact step_lit45 s w h
  by_cases q46 : c = 46
  · subst q46; exact step_lit46 s w h
  by_cases q48 : c = 48
  · subst q48; exact step_lit48 s w h
  by_cases q69 : c = 69
  · subst q69; exact step_lit69 s w h
  by_cases q101 : c = 101
  · subst q101; exact step_lit101 s w h
  by_cases h1 : c < 48
  · exact step_low s c w h h1 q43 q45 q46
  · by_cases h2 : c ≤ 57
    · exact step_dig s c w h (by omega) h2
    · exact step_high s c w h (by omega) q69 q101

set_option maxHeartbeats 2000000 in
theorem acc_any (s : Nat) (w : World) (h : s ≤ 8) : Calls Try.prog 12 #[.int .i64 s] w fun e w' => e = .returned (.bool (acc s)) ∧ w' = w := by
  match s, h with
  | 0, _ =>
    go_enter Try.func12, Try.ntmps12
    go_wp2
    go_ret
    exact ⟨rfl, rfl⟩
  | 1, _ =>
    go_enter Try.func12, Try.ntmps12
    go_wp2
    go_ret
    exact ⟨rfl, rfl⟩
  | 2, _ =>
    go_enter Try.func12, Try.ntmps12
    go_wp2
    go_ret
    exact ⟨rfl, rfl⟩
  | 3, _ =>
    go_enter Try.func12, Try.ntmps12
    go_wp2
    go_ret
    exact ⟨rfl, rfl⟩
  | 4, _ =>
    go_enter Try.func12, Try.ntmps12
    go_wp2
    go_ret
    exact ⟨rfl, rfl⟩
  | 5, _ =>
    go_enter Try.func12, Try.ntmps12
    go_wp2
    go_ret
    exact ⟨rfl, rfl⟩
  | 6, _ =>
    go_enter Try.func12, Try.ntmps12
    go_wp2
    go_ret
    exact ⟨rfl, rfl⟩
  | 7, _ =>
    go_enter Try.func12, Try.ntmps12
    go_wp2
    go_ret
    exact ⟨rfl, rfl⟩
  | 8, _ =>
    go_enter Try.func12, Try.ntmps12
    go_wp2
    go_ret
    exact ⟨rfl, rfl⟩
end Go.Proofs.Qxb6003729a.Num
