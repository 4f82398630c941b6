import Derived.Test.Qxb6003783aDoorDec
import Derived.Deep.DeepCutAuto
namespace Go.Proofs.Qxb6003783aDoor.Stale
open Go.RowKit Mem Fmt
set_option linter.unusedVariables false

set_option maxRecDepth 100000 in
set_option maxHeartbeats 1600000 in
theorem decode_cp (u : Nat) (hu : u < 18446744073709551616) (w : World) :
    Calls Tryd.prog 9 #[.string (cpN u)] w fun e w' => e = .returned (.tuple #[.int .i64 1, .int .u64 u, .bool true]) ∧ Below w.heap.size w w' := by
  have hsz : (cpN u).size = 11 + Lib.nDigits u := nm_size cpB u
  have hp := Lib.nDigits_pos u
  have h20 := Lib.nDigits_le20 u hu
  have HPRE : Hid (∀ i (h1 : i < (cpN u).size) (h2 : i < 11), ((cpN u)[i]'h1) = (cpB[i]'h2)) := fun i h1 h2 => nm_pre cpB u i h1 h2
  have HDIG : Hid (∀ j (h : 11 + j < (cpN u).size), (((cpN u)[11 + j]'h).toNat) = 48 + dig u j) := fun j h => nm_dig cpB u j h
  have HT0 := hid (top_zero u)
  have HTA := hid (top_all u)
  have HTS := hid (top_step u)
  have HTL := hid (top_le u)
  have HD1 : Hid (1 < Lib.nDigits u → 1 ≤ dig u 0) := fun h => dig_first u (two_digits u h)
  obtain ⟨ui, hui⟩ : ∃ ui : Int, ui = (u : Int) := ⟨_, rfl⟩
  have HUI := hid hui
  clear hui
  generalize cpN u = S at *
  generalize Lib.nDigits u = nd at *
  have hs1 : S.size ≤ 100 := by omega
  go_enter Tryd.func9, Tryd.ntmps9
  go_wp2_with fail
  refine (hasPrefix_yes S ⟨#[99, 104, 101, 99, 107, 112, 111, 105, 110, 116, 46]⟩ w (by omega) (by rw [hsz]; show 11 ≤ _; omega) (fun i h1 h2 => by rw [HPRE.out i h1 h2]; rfl)).mono ?_
  rintro e w1 ⟨rfl, hb1⟩
  have h0 : (S[11]'(by omega)).toNat = 48 + dig u 0 := HDIG.out 0 (by omega)
  have hd10 := dig_lt u 0
  obtain ⟨c0, hc0⟩ : ∃ c0 : Int, c0 = ((S[11]'(by omega)).toNat : Int) := ⟨_, rfl⟩
  clear hc0 c0
  go_upto_region 13 with fail
  go_cut [33] (fun v wx => v = .bool false ∧ wx = w1)
  case first =>
    by_cases h1 : 1 < nd
    · have h2 := HD1.out h1
      have hz : ((48 : Int) + (dig u 0 : Int) == 48) = false := by simp; omega
      clear HD1
      go_wp2
      go_meet
      exact ⟨rfl, rfl⟩
    · have h2 : nd = 1 := by omega
      subst h2
      go_wp2
      go_meet
      exact ⟨rfl, rfl⟩
  case rest =>
  obtain ⟨rfl, hwc⟩ := hcut
  subst hwc
  clear h0 hd10 HD1 HPRE
  go_wp2
  go_loopw [8, 9] (fun sn sk wr => ∃ (j : Nat) (a : Int), j ≤ nd ∧ sn = .int .u64 a ∧ sk = .int .i64 (11 + (j : Int)) ∧ Hid (a = (top u j : Nat)) ∧ 0 ≤ a ∧ a ≤ 18446744073709551615 ∧ wr = wc) (fun _ sk _ => 11 + nd - (intOf sk).toNat)
  case atStart => exact ⟨0, 0, by omega, rfl, rfl, by show (0 : Int) = _; rw [HT0.out]; rfl, by omega, by omega, rfl⟩
  case round =>
    obtain ⟨j, a, hj, rfl, rfl, ha, ha0, ha1, rfl⟩ := hrel
    by_cases hlt : j < nd
    · have hx : (S[11 + j]'(by omega)).toNat = 48 + dig u j := HDIG.out j (by omega)
      have hdl := dig_lt u j
      have hst := HTS.out j hlt
      have hle := HTL.out (j + 1)
      obtain ⟨v, hv⟩ : ∃ v : Int, v = (dig u j : Nat) := ⟨_, rfl⟩
      have hax : a * 10 + v = (top u (j + 1) : Nat) := by rw [ha.out, hv, hst]; omega
      have HAX := hid hax
      have hv0 : 0 ≤ v := by omega
      have hv9 : v ≤ 9 := by omega
      have hb9 : a * 10 + v ≤ 18446744073709551615 := by omega
      have hch : ((S[11 + j]'(by omega)).toNat : Int) = 48 + v := by rw [hx, hv]; omega
      clear hax hst hle hdl hv hx
      go_wp2
      exact ⟨⟨j + 1, a * 10 + v, by omega, by rw [show a * 10 + (48 + v - 48) = a * 10 + v from by omega], by rw [show 11 + (j : Int) + 1 = 11 + ((j + 1 : Nat) : Int) from by omega], HAX.out, by omega, hb9, trivial⟩, by simp [intOf]; omega⟩
    · obtain rfl : j = nd := by omega
      have HR : Hid (a = (u : Nat)) := by show a = _; rw [ha.out, HTA.out]
      go_wp2
      go_ret3
      exact ⟨by rw [HR.out]; rfl, hb1⟩

set_option maxRecDepth 100000 in
set_option maxHeartbeats 1600000 in
theorem decode_sg (u : Nat) (hu : u < 18446744073709551616) (w : World) :
    Calls Tryd.prog 9 #[.string (sgN u)] w fun e w' => e = .returned (.tuple #[.int .i64 2, .int .u64 u, .bool true]) ∧ Below w.heap.size w w' := by
  have hsz : (sgN u).size = 4 + Lib.nDigits u := nm_size sgB u
  have hp := Lib.nDigits_pos u
  have h20 := Lib.nDigits_le20 u hu
  have HPRE : Hid (∀ i (h1 : i < (sgN u).size) (h2 : i < 4), ((sgN u)[i]'h1) = (sgB[i]'h2)) := fun i h1 h2 => nm_pre sgB u i h1 h2
  have HDIG : Hid (∀ j (h : 4 + j < (sgN u).size), (((sgN u)[4 + j]'h).toNat) = 48 + dig u j) := fun j h => nm_dig sgB u j h
  have HT0 := hid (top_zero u)
  have HTA := hid (top_all u)
  have HTS := hid (top_step u)
  have HTL := hid (top_le u)
  have HD1 : Hid (1 < Lib.nDigits u → 1 ≤ dig u 0) := fun h => dig_first u (two_digits u h)
  obtain ⟨ui, hui⟩ : ∃ ui : Int, ui = (u : Int) := ⟨_, rfl⟩
  have HUI := hid hui
  clear hui
  generalize sgN u = S at *
  generalize Lib.nDigits u = nd at *
  have hs1 : S.size ≤ 100 := by omega
  go_enter Tryd.func9, Tryd.ntmps9
  go_wp2_with fail
  refine (hasPrefix_no S ⟨#[99, 104, 101, 99, 107, 112, 111, 105, 110, 116, 46]⟩ w (by omega) (by decide) (by omega) (by decide) (by rw [HPRE.out 0 (by omega) (by decide)]; decide)).mono ?_
  rintro e w0 ⟨rfl, hb0⟩
  go_wp2_with fail
  refine (hasPrefix_yes S ⟨#[108, 111, 103, 46]⟩ w0 (by omega) (by rw [hsz]; show 4 ≤ _; omega) (fun i h1 h2 => by rw [HPRE.out i h1 h2]; rfl)).mono ?_
  rintro e w1 ⟨rfl, hb1'⟩
  have hb1 := hb0.trans (hb1'.mono hb0.size)
  clear hb0 hb1'
  have h0 : (S[4]'(by omega)).toNat = 48 + dig u 0 := HDIG.out 0 (by omega)
  have hd10 := dig_lt u 0
  obtain ⟨c0, hc0⟩ : ∃ c0 : Int, c0 = ((S[4]'(by omega)).toNat : Int) := ⟨_, rfl⟩
  clear hc0 c0
  go_upto_region 13 with fail
  go_cut [33] (fun v wx => v = .bool false ∧ wx = w1)
  case first =>
    by_cases h1 : 1 < nd
    · have h2 := HD1.out h1
      have hz : ((48 : Int) + (dig u 0 : Int) == 48) = false := by simp; omega
      clear HD1
      go_wp2
      go_meet
      exact ⟨rfl, rfl⟩
    · have h2 : nd = 1 := by omega
      subst h2
      go_wp2
      go_meet
      exact ⟨rfl, rfl⟩
  case rest =>
  obtain ⟨rfl, hwc⟩ := hcut
  subst hwc
  clear h0 hd10 HD1 HPRE
  go_wp2
  go_loopw [8, 9] (fun sn sk wr => ∃ (j : Nat) (a : Int), j ≤ nd ∧ sn = .int .u64 a ∧ sk = .int .i64 (4 + (j : Int)) ∧ Hid (a = (top u j : Nat)) ∧ 0 ≤ a ∧ a ≤ 18446744073709551615 ∧ wr = wc) (fun _ sk _ => 4 + nd - (intOf sk).toNat)
  case atStart => exact ⟨0, 0, by omega, rfl, rfl, by show (0 : Int) = _; rw [HT0.out]; rfl, by omega, by omega, rfl⟩
  case round =>
    obtain ⟨j, a, hj, rfl, rfl, ha, ha0, ha1, rfl⟩ := hrel
    by_cases hlt : j < nd
    · have hx : (S[4 + j]'(by omega)).toNat = 48 + dig u j := HDIG.out j (by omega)
      have hdl := dig_lt u j
      have hst := HTS.out j hlt
      have hle := HTL.out (j + 1)
      obtain ⟨v, hv⟩ : ∃ v : Int, v = (dig u j : Nat) := ⟨_, rfl⟩
      have hax : a * 10 + v = (top u (j + 1) : Nat) := by rw [ha.out, hv, hst]; omega
      have HAX := hid hax
      have hv0 : 0 ≤ v := by omega
      have hv9 : v ≤ 9 := by omega
      have hb9 : a * 10 + v ≤ 18446744073709551615 := by omega
      have hch : ((S[4 + j]'(by omega)).toNat : Int) = 48 + v := by rw [hx, hv]; omega
      clear hax hst hle hdl hv hx
      go_wp2
      exact ⟨⟨j + 1, a * 10 + v, by omega, by rw [show a * 10 + (48 + v - 48) = a * 10 + v from by omega], by rw [show 4 + (j : Int) + 1 = 4 + ((j + 1 : Nat) : Int) from by omega], HAX.out, by omega, hb9, trivial⟩, by simp [intOf]; omega⟩
    · obtain rfl : j = nd := by omega
      have HR : Hid (a = (u : Nat)) := by show a = _; rw [ha.out, HTA.out]
      go_wp2
      go_ret3
      exact ⟨by rw [HR.out]; rfl, hb1⟩
end Go.Proofs.Qxb6003783aDoor.Stale
