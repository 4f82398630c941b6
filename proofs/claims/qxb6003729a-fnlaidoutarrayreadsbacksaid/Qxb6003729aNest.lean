import Derived.Test.Qxb6003729aMem
import Derived.Test.Qxb6003729aNestPlain
namespace Go.Proofs.Qxb6003729a.Nest
open Go.RowKit Mem
set_option linter.unusedVariables false

theorem drop_at (zs : List Int) (k : Nat) (h : k < zs.length) : zs.drop k = zs.getD k 0 :: zs.drop (k + 1) := by
  rw [List.drop_eq_getElem_cons h]; simp [List.getD, List.getElem?_eq_getElem h]

def stOf : Bool → Nat | true => 1 | false => 0

set_option maxHeartbeats 1600000 in
theorem nesting_any (a : Option Addr) (n cap : Nat) (zs : List Int) (w : World) (hr : Row w a n (fun k => .int .u8 (zs.getD k 0))) (hl : zs.length = n) (hn : n ≤ 1048576) :
    Calls Try.prog 32 #[.slice a n cap] w fun e w' => e = .returned (.int .i64 (nest zs)) ∧ w' = w ∧ 0 ≤ nest zs ∧ nest zs ≤ 2 * n + 2 := by
  have HL := hid hl
  clear hl
  go_enter Try.func32, Try.ntmps32
  go_wp2
  go_loop [3, 4, 5, 6] (fun sD sd sb si => ∃ (k : Nat) (D d : Int) (b : Bool), k ≤ n + 1 ∧ 0 ≤ D ∧ D ≤ 2 * k ∧ -(2 * k : Int) ≤ d ∧ d ≤ 2 * k ∧ sD = .int .i64 D ∧ sd = .int .i64 d ∧ sb = .bool b ∧ si = .int .i64 k ∧ Hid (go (zs.drop k) (stOf b) D d = nest zs)) (fun _ _ _ si => n - (intOf si).toNat)
  case atStart => exact ⟨0, 0, 0, false, by omega, by omega, by omega, by omega, by omega, rfl, rfl, rfl, rfl, rfl⟩
  case round =>
    obtain ⟨k, D, d, b, hk, hD0, hD1, hd0, hd1, rfl, rfl, rfl, rfl, hG⟩ := hrel
    by_cases hlt : k < n
    · rcases hr with h0 | ⟨bb, off, rfl, hc⟩
      · omega
      have hck := hc k hlt
      have hdr := drop_at zs k (by rw [HL.out]; exact hlt)
      have HG : Hid (go (zs.getD k 0 :: zs.drop (k + 1)) (stOf b) D d = nest zs) := by have := hG.out; rw [hdr] at this; exact this
      clear hc hdr hG
      have hck2 : w.cell? ⟨bb, off + k, none⟩ = some (.int .u8 (zs.getD k 0)) := hck
      clear hck
      generalize zs.getD k 0 = c at *
      cases b with
      | true =>
        have HG' : Hid ((if c = 92 then go ((zs.drop (k + 1)).drop 1) 1 D d else if c = 34 then go (zs.drop (k + 1)) 0 D d else go (zs.drop (k + 1)) 1 D d) = nest zs) := by
          have := HG.out; rw [show stOf true = 1 from rfl, go_in] at this; exact this
        clear HG
        by_cases h1 : c = 92
        · have e := HG'.out
          rw [if_pos h1, List.drop_drop, Nat.add_assoc] at e
          have E := hid e
          subst h1
          clear e HG'
          go_wp2
          go_round
          case rel => exact ⟨k + (1 + 1), D, d, true, by omega, by omega, by omega, by omega, by omega, rfl, rfl, rfl, by go_num, E.out⟩
          case measure => simp [intOf]; omega
        · by_cases h2 : c = 34
          · have e := HG'.out
            rw [if_neg h1, if_pos h2] at e
            have E := hid e
            subst h2
            clear e HG'
            go_wp2
            go_round
            case rel => exact ⟨k + 1, D, d, false, by omega, by omega, by omega, by omega, by omega, rfl, rfl, rfl, by go_num, E.out⟩
            case measure => simp [intOf]; omega
          · have e := HG'.out
            rw [if_neg h1, if_neg h2] at e
            have E := hid e
            clear e HG'
            have g1 : (c == 92) = false := by simpa using h1
            have g2 : (c == 34) = false := by simpa using h2
            clear h1 h2
            go_wp2
            go_round
            case rel => exact ⟨k + 1, D, d, true, by omega, by omega, by omega, by omega, by omega, rfl, rfl, rfl, by go_num, E.out⟩
            case measure => simp [intOf]; omega
      | false =>
        have HG' : Hid ((if c = 34 then go (zs.drop (k + 1)) 1 D d else if c = 91 then go (zs.drop (k + 1)) 0 (max D (d + 1)) (d + 1) else if c = 123 then go (zs.drop (k + 1)) 0 (max D (d + 1)) (d + 2) else if c = 93 then go (zs.drop (k + 1)) 0 D (d - 1) else if c = 125 then go (zs.drop (k + 1)) 0 D (d - 2) else go (zs.drop (k + 1)) 0 D d) = nest zs) := by
          have := HG.out; rw [show stOf false = 0 from rfl, go_out] at this; exact this
        clear HG
        by_cases p0 : c = 34
        · have e := HG'.out
          rw [if_pos p0] at e
          have E := hid e
          subst p0
          clear e HG'
          go_wp2
          go_round
          case rel => exact ⟨k + 1, D, d, true, by omega, by omega, by omega, by omega, by omega, rfl, rfl, rfl, by go_num, E.out⟩
          case measure => simp [intOf]; omega
        ·
          by_cases p1 : c = 91
          · have e := HG'.out
            rw [if_neg p0, if_pos p1] at e
            have E := hid e
            subst p1
            clear e HG'
            have hmx : (if D < d + 1 then d + 1 else D) = max D (d + 1) := by split <;> omega
            have HMX := hid hmx
            clear hmx
            go_wp2
            go_round
            case rel => exact ⟨k + 1, (max D (d + 1)), (d + 1), false, by omega, by omega, by omega, by omega, by omega, by rw [HMX.out], rfl, rfl, by go_num, E.out⟩
            case measure => simp [intOf]; omega
          ·
            by_cases p2 : c = 123
            · have e := HG'.out
              rw [if_neg p0, if_neg p1, if_pos p2] at e
              have E := hid e
              subst p2
              clear e HG'
              have hmx : (if D < d + 1 then d + 1 else D) = max D (d + 1) := by split <;> omega
              have HMX := hid hmx
              clear hmx
              go_wp2
              go_round
              case rel => exact ⟨k + 1, (max D (d + 1)), (d + 2), false, by omega, by omega, by omega, by omega, by omega, by rw [HMX.out], rfl, rfl, by go_num, E.out⟩
              case measure => simp [intOf]; omega
            ·
              by_cases p3 : c = 93
              · have e := HG'.out
                rw [if_neg p0, if_neg p1, if_neg p2, if_pos p3] at e
                have E := hid e
                subst p3
                clear e HG'
                go_wp2
                go_round
                case rel => exact ⟨k + 1, D, (d - 1), false, by omega, by omega, by omega, by omega, by omega, rfl, rfl, rfl, by go_num, E.out⟩
                case measure => simp [intOf]; omega
              ·
                by_cases p4 : c = 125
                · have e := HG'.out
                  rw [if_neg p0, if_neg p1, if_neg p2, if_neg p3, if_pos p4] at e
                  have E := hid e
                  subst p4
                  clear e HG'
                  go_wp2
                  go_round
                  case rel => exact ⟨k + 1, D, (d - 2), false, by omega, by omega, by omega, by omega, by omega, rfl, rfl, rfl, by go_num, E.out⟩
                  case measure => simp [intOf]; omega
                ·
                  have e := HG'.out
                  rw [if_neg p0, if_neg p1, if_neg p2, if_neg p3, if_neg p4] at e
                  have E := hid e
                  have g0 : (c == 34) = false := by simpa using p0
                  have g1 : (c == 91) = false := by simpa using p1
                  have g2 : (c == 123) = false := by simpa using p2
                  have g3 : (c == 93) = false := by simpa using p3
                  have g4 : (c == 125) = false := by simpa using p4
                  clear e HG' p0 p1 p2 p3 p4
                  go_wp2
                  go_round
                  case rel => exact ⟨k + 1, D, d, false, by omega, by omega, by omega, by omega, by omega, rfl, rfl, rfl, by go_num, E.out⟩
                  case measure => simp [intOf]; omega
    · have hz : zs.drop k = [] := List.drop_of_length_le (by rw [HL.out]; omega)
      have e := hG.out
      rw [hz] at e
      have E : Hid (D = nest zs) := by cases b <;> exact e
      clear hG hz e
      go_wp2
      go_ret
      exact ⟨ret_int E.out, rfl, by rw [← E.out]; omega, by rw [← E.out]; omega⟩

theorem zznesting_any (a : Option Addr) (n cap : Nat) (zs : List Int) (w : World) (hr : Row w a n (fun k => .int .u8 (zs.getD k 0))) (hl : zs.length = n) (hn : n ≤ 1048576) :
    Calls Try.prog 9 #[.slice a n cap] w fun e w' => e = .returned (.int .i64 (nest zs)) ∧ w' = w ∧ 0 ≤ nest zs ∧ nest zs ≤ 2 * n + 2 := by
  go_enter Try.func9, Try.ntmps9
  go_wp2_with fail
  refine (nesting_any a n cap zs w hr hl hn).mono ?_
  rintro e w' ⟨rfl, rfl, h1, h2⟩
  go_wp2
  go_ret
  exact ⟨rfl, rfl, h1, h2⟩
end Go.Proofs.Qxb6003729a.Nest
