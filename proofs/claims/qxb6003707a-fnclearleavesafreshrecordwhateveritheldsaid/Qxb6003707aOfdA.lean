import Derived.Test.Qxb6003707aRows
import Derived.Test.Qxb6003707aOfdPlain
import Derived.WalkKit
import Derived.ProofKit
import Derived.WalkSpells
import Derived.Deep.QuietTactic
import Derived.BigQuiet
namespace Go.Proofs.Qxb6003707a.Ofd
open Go.RowKit
set_option linter.unusedVariables false

/-- A slice of n one-cell elements at a: element k reads f k. -/
def Row (w : World) (a : Option Addr) (n : Nat) (f : Nat → Value) : Prop :=
  n = 0 ∨ ∃ b off, a = some ⟨b, off, none⟩ ∧ ∀ k, k < n → w.cell? ⟨b, off + k, none⟩ = some (f k)

theorem Row.mono {w w' : World} {a : Option Addr} {n : Nat} {f : Nat → Value} (h : Row w a n f) (hw : ∀ p v, w.cell? p = some v → w'.cell? p = some v) : Row w' a n f := by
  rcases h with h | ⟨b, off, ha, hc⟩
  · exact Or.inl h
  · exact Or.inr ⟨b, off, ha, fun k hk => hw _ _ (hc k hk)⟩

/-- The call returned a bool x with P x. -/
def RetB (e : Ending) (P : Bool → Prop) : Prop := ∃ x, e = .returned (.bool x) ∧ P x
theorem RetB.mk {P : Bool → Prop} (x : Bool) (h : P x) : RetB (.returned (.bool x)) P := ⟨x, rfl, h⟩
theorem ret_int {k : IntKind} {a b : Int} (h : a = b) : Ending.returned (.int k a) = .returned (.int k b) := by rw [h]
theorem ret_bool {a b : Bool} (h : a = b) : Ending.returned (.bool a) = .returned (.bool b) := by rw [h]

set_option maxHeartbeats 400000 in
theorem stringBytes_any (a : Option Addr) (n cap : Nat) (s : Nat → ByteArray) (w : World) (hr : Row w a n (fun k => .string (s k))) (hn : n ≤ 1048576) :
    Calls Try.prog 13 #[.slice a n cap] w fun e w' => (∃ x, e = .returned (.int .i64 x)) ∧ w' = w := by
  go_enter Try.func13, Try.ntmps13
  go_wp2
  go_loop [3, 4] (fun t i => ∃ (k : Nat) (x : Int), k ≤ n ∧ i = .int .i64 k ∧ t = .int .i64 x) (fun _ i => n - (intOf i).toNat)
  case atStart => exact ⟨0, _, by omega, rfl, rfl⟩
  case round =>
    obtain ⟨k, x, hk, rfl, rfl⟩ := hrel
    by_cases hlt : k < n
    · rcases hr with h0 | ⟨b, off, rfl, hc⟩
      · omega
      · have hck := hc k hlt
        clear hc
        go_wp2
        go_round
        case rel => exact ⟨k + 1, _, by omega, by go_num, rfl⟩
        case measure => simp [intOf]; omega
    · go_wp2
      go_ret
      exact ⟨⟨_, rfl⟩, rfl⟩

set_option maxHeartbeats 400000 in
theorem lensFit_any (a : Option Addr) (n cap : Nat) (s : Nat → ByteArray) (m : Int) (w : World) (hr : Row w a n (fun k => .string (s k))) (hn : n ≤ 1048576) :
    Calls Try.prog 14 #[.slice a n cap, .int .i64 m] w fun e w' => RetB e (fun _ => True) ∧ w' = w := by
  go_enter Try.func14, Try.ntmps14
  go_wp2
  go_loop [5] (fun i => ∃ (k : Nat), k ≤ n ∧ i = .int .i64 k) (fun i => n - (intOf i).toNat)
  case atStart => exact ⟨0, by omega, rfl⟩
  case round =>
    obtain ⟨k, hk, rfl⟩ := hrel
    by_cases hlt : k < n
    · rcases hr with h0 | ⟨b, off, rfl, hc⟩
      · omega
      · have hck := hc k hlt
        clear hc
        by_cases hs : m < (s k).size
        · go_wp2
          go_ret
          exact ⟨RetB.mk _ trivial, rfl⟩
        · go_wp2
          go_round
          case rel => exact ⟨k + 1, by omega, by go_num⟩
          case measure => simp [intOf]; omega
    · go_wp2
      go_ret
      exact ⟨RetB.mk _ trivial, rfl⟩

set_option maxHeartbeats 400000 in
theorem widthsFit_any (a : Option Addr) (n cap : Nat) (z : Nat → Int) (w : World) (hr : Row w a n (fun k => .int .i64 (z k))) (hn : n ≤ 1048576) :
    Calls Try.prog 15 #[.slice a n cap, .int .i64 1000] w fun e w' => RetB e (fun x => x = true → ∀ k, k < n → 0 ≤ z k ∧ z k ≤ 1000) ∧ w' = w := by
  go_enter Try.func15, Try.ntmps15
  go_wp2
  go_loop [5] (fun i => ∃ (k : Nat), k ≤ n ∧ i = .int .i64 k ∧ Hid (∀ j, j < k → 0 ≤ z j ∧ z j ≤ 1000)) (fun i => n - (intOf i).toNat)
  case atStart => exact ⟨0, by omega, rfl, fun j hj => by omega⟩
  case round =>
    obtain ⟨k, hk, rfl, hz⟩ := hrel
    by_cases hlt : k < n
    · rcases hr with h0 | ⟨b, off, rfl, hc⟩
      · omega
      · have hck := hc k hlt
        clear hc
        by_cases h1 : z k < 0
        · go_wp2
          go_ret
          exact ⟨RetB.mk false (fun h => by cases h), rfl⟩
        · by_cases h2 : 1000 < z k
          · go_wp2
            go_ret
            exact ⟨RetB.mk false (fun h => by cases h), rfl⟩
          · go_wp2
            go_round
            case rel => exact ⟨k + 1, by omega, by go_num, fun j hj => by rcases Nat.lt_succ_iff_lt_or_eq.mp hj with h | rfl; exact hz.out j h; omega⟩
            case measure => simp [intOf]; omega
    · go_wp2
      go_ret
      exact ⟨RetB.mk true (fun _ j hj => hz.out j (by omega)), rfl⟩

set_option maxHeartbeats 400000 in
theorem sum_any (a : Option Addr) (n cap : Nat) (ws : List Int) (w : World) (hr : Row w a n (fun k => .int .i64 (ws.getD k 0))) (hw : ws.length = n) (hz : ∀ k, k < n → 0 ≤ ws.getD k 0 ∧ ws.getD k 0 ≤ 1000) (hn : n ≤ 1000) :
    Calls Try.prog 20 #[.slice a n cap] w fun e w' => e = .returned (.int .i64 (psum ws n)) ∧ w' = w := by
  have hmax : ∀ k, k ≤ n → psum ws k ≤ 1000 * k := by
    intro k
    induction k with
    | zero => intro _; simp [psum]
    | succ k ih => intro h; have := ih (by omega); rw [psum_succ ws k (by omega)]; have := hz k (by omega); omega
  have HZ := show Hid _ from hz
  have HM := show Hid _ from hmax
  have HW : Hid (ws.length = n) := hw
  clear hz hmax hw
  go_enter Try.func20, Try.ntmps20
  go_wp2
  go_loop [3, 4] (fun t i => ∃ (k : Nat), k ≤ n ∧ i = .int .i64 k ∧ t = .int .i64 (psum ws k)) (fun _ i => n - (intOf i).toNat)
  case atStart => exact ⟨0, by omega, rfl, by rw [psum_zero]; rfl⟩
  case round =>
    obtain ⟨k, hk, rfl, rfl⟩ := hrel
    by_cases hlt : k < n
    · rcases hr with h0 | ⟨b, off, rfl, hc⟩
      · omega
      · have hck := hc k hlt
        obtain ⟨hz1, hz2⟩ := HZ.out k hlt
        have hb := HM.out k (by omega)
        have hs := psum_succ ws k (by rw [HW.out]; exact hlt)
        have HS : Hid (((psum ws k : Nat) : Int) + ws.getD k 0 = (psum ws (k + 1) : Nat)) := by show _ = _; omega
        clear hc hs
        simp only [List.getD_eq_getElem?_getD] at hz1 hz2 hck HS
        go_wp2
        go_round
        case rel => exact ⟨k + 1, by omega, by go_num, by rw [HS.out]⟩
        case measure => simp [intOf]; omega
    · obtain rfl : k = n := by omega
      go_wp2
      go_ret
      exact ⟨rfl, rfl⟩

set_option maxHeartbeats 800000 in
theorem zzBytes_any (a0 a1 a2 : Option Addr) (n0 c0 n1 c1 n2 c2 : Nat) (s : Nat → ByteArray) (w : World) (hr : Row w a0 n0 (fun k => .string (s k))) (m0 : n0 ≤ 9223372036854775807) (m1 : n1 ≤ 9223372036854775807) (m2 : n2 ≤ 9223372036854775807) :
    Calls Try.prog 22 #[.slice a0 n0 c0, .slice a1 n1 c1, .slice a2 n2 c2] w fun e w' => RetB e (fun x => x = true → n0 ≤ 1048576 ∧ n1 ≤ 1048576 ∧ n2 ≤ 1048576) ∧ w' = w := by
  by_cases h0 : 1048576 < n0
  · go_enter Try.func22, Try.ntmps22
    go_wp2
    go_ret
    exact ⟨RetB.mk false (fun h => by cases h), rfl⟩
  · go_enter Try.func22, Try.ntmps22
    go_wp2
    go_loop [7, 8] (fun t i => ∃ (k : Nat) (x : Int), k ≤ n0 ∧ 0 ≤ x ∧ x ≤ 1048576 ∧ i = .int .i64 k ∧ t = .int .i64 x) (fun _ i => n0 - (intOf i).toNat)
    case atStart => exact ⟨0, _, by omega, by omega, by omega, rfl, rfl⟩
    case round =>
      obtain ⟨k, x, hk, hx0, hx1, rfl, rfl⟩ := hrel
      by_cases hlt : k < n0
      · rcases hr with h0 | ⟨b, off, rfl, hc⟩
        · omega
        · have hck := hc k hlt
          clear hc
          by_cases hs : 1048576 < (s k).size
          · go_wp2
            go_ret
            exact ⟨RetB.mk false (fun h => by cases h), rfl⟩
          · by_cases hs2 : 1048576 < x + (s k).size
            · go_wp2
              go_ret
              exact ⟨RetB.mk false (fun h => by cases h), rfl⟩
            · go_wp2
              go_round
              case rel => exact ⟨k + 1, _, by omega, by omega, by omega, by go_num, rfl⟩
              case measure => simp [intOf]; omega
      · by_cases h1 : 1048576 < n1
        · go_wp2
          go_ret
          exact ⟨RetB.mk false (fun h => by cases h), rfl⟩
        · by_cases h1b : 1048576 < x + n1
          · go_wp2
            go_ret
            exact ⟨RetB.mk false (fun h => by cases h), rfl⟩
          · by_cases h2 : 1048576 < n2
            · go_wp2
              go_ret
              exact ⟨RetB.mk false (fun h => by cases h), rfl⟩
            · by_cases h2b : 1048576 < x + n1 + n2
              · go_wp2
                go_ret
                exact ⟨RetB.mk false (fun h => by cases h), rfl⟩
              · go_wp2
                go_ret
                exact ⟨RetB.mk true (fun _ => ⟨by omega, by omega, by omega⟩), rfl⟩
end Go.Proofs.Qxb6003707a.Ofd
