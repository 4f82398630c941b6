import Derived.Test.Qxb6003729aNest
import Derived.Test.Qxb6003729aApp
namespace Go.Proofs.Qxb6003729a.Nest
open Go.RowKit Mem
set_option linter.unusedVariables false

theorem zzBytes3_any (a : Option Addr) (n cap : Nat) (w : World) (m : n ≤ 9223372036854775807) :
    Calls Try.prog 7 #[.slice a n cap] w fun e w' => RetB e (fun x => x = true → n ≤ 1048576) ∧ w' = w := by
  by_cases h : 1048576 < n
  · go_enter Try.func7, Try.ntmps7
    go_wp2
    go_ret
    exact ⟨RetB.mk false (fun h => by cases h), rfl⟩
  · go_enter Try.func7, Try.ntmps7
    go_wp2
    go_ret
    exact ⟨RetB.mk true (fun _ => by omega), rfl⟩

set_option maxHeartbeats 1600000 in
theorem law_any (a : Option Addr) (n cap : Nat) (zs : List Int) (w : World) (hr : Row w a n (fun k => .int .u8 (zs.getD k 0))) (hl : zs.length = n) (hnil : a = none → n = 0) (m : n ≤ 9223372036854775807) :
    Calls Try.prog 3 #[.slice a n cap] w fun e w' => e = .returned (.bool true) ∧ Below w.heap.size w w' := by
  have HL := hid hl
  clear hl
  go_enter Try.func3, Try.ntmps3
  go_wp2_with fail
  refine (zzBytes3_any _ _ _ _ m).mono ?_
  rintro e w' ⟨⟨x, rfl, hx⟩, hw⟩
  subst hw
  cases x with
  | false =>
    go_wp2
    go_ret
    exact ⟨rfl, Below.refl _ _⟩
  | true =>
    have hn := hx rfl
    clear hx m
    by_cases h16 : 65536 < n
    · go_wp2
      go_ret
      exact ⟨rfl, Below.refl _ _⟩
    · go_wp2_with fail
      refine (cloneBytes_any _ _ _ _ _ hr hnil hn).mono ?_
      rintro e w1 ⟨a', rfl, ho⟩
      have hb1 := ho.below
      have hs1 := hb1.size
      have hR := ho.row
      clear hr hnil
      go_upto_region 7 with (at_make; refine make_room rfl _ (.tmp 14) rfl w1.heap.size (n + 2) _ rfl rfl (by omega) (by omega) (Nat.le_refl _) ?_; intro w2 hy2 hg2)
      have hz2 := hg2.size
      go_upto_region 8 with (at_builtin; refine append_byte rfl (.tmp 16) (.tmp 17) rfl w1.heap.size [] _ rfl hy2 91 rfl (by simp) (by omega) ?_; intro v3 w3 hy3 hg3)
      have hb3 : Below w1.heap.size w1 w3 := ((Below.refl _ _).grown hg2 (Nat.le_refl _) (fun q hq => by cases hq)).grown hg3 hz2 hy2.lt
      have hR3 := hR.later hb3
      have hs3 := hb3.size
      rw [List.nil_append] at hy3
      go_cut [3] (fun v wx => Bytes wx w1.heap.size v ([91] ++ zs) ∧ Below w1.heap.size w1 wx)
      case first =>
        rcases hR3 with h0 | ⟨b, off, ha, hc⟩
        · rcases ho with ⟨ha, _, _⟩ | ⟨ha, _⟩
          · subst ha
            subst h0
            obtain rfl : zs = [] := List.length_eq_zero_iff.mp HL.out
            go_wp2_with (at_builtin; refine append_nil rfl (.tmp 19) (.tmp 20) rfl w1.heap.size [91] _ rfl hy3 rfl ?_)
            go_meet
            exact ⟨hy3, hb3⟩
          · subst ha
            subst h0
            go_wp2_with (at_builtin; refine append_bytes rfl (.tmp 19) (.tmp 20) rfl w1.heap.size [91] _ rfl hy3 _ _ 0 0 zs rfl HL.out (fun k hk => by omega) (by simp) hs3 ?_; intro v4 w4 hy4 hg4)
            go_meet
            exact ⟨hy4, hb3.grown hg4 hs3 hy3.lt⟩
        · subst ha
          go_wp2_with (at_builtin; refine append_bytes rfl (.tmp 19) (.tmp 20) rfl w1.heap.size [91] _ rfl hy3 b off n n zs rfl HL.out hc (by simp; omega) hs3 ?_; intro v4 w4 hy4 hg4)
          go_meet
          exact ⟨hy4, hb3.grown hg4 hs3 hy3.lt⟩
      case rest =>
        obtain ⟨hy4, hb4⟩ := hcut
        have hs4 := hb4.size
        have HL2 := HL.out
        clear hy3 hg3 hb3 hR3 hs3 hy2 hg2 hz2 
        go_upto_region 10 with (at_builtin; refine append_byte rfl (.tmp 22) (.tmp 23) rfl w1.heap.size ([91] ++ zs) _ rfl hy4 93 rfl (by simp; omega) hs4 ?_; intro v5 w5 hy5 hg5)
        have hb5 : Below w1.heap.size w1 w5 := hb4.grown hg5 hs4 hy4.lt
        obtain ⟨av, cv, hv5, hrow5⟩ := hy5.row
        obtain ⟨N, hN⟩ : ∃ N, N = ([91] ++ zs ++ [93]).length := ⟨_, rfl⟩
        have hN2 : N ≤ 100000 := by rw [hN]; simp; omega
        rw [← hN] at hv5 hrow5
        rw [hv5]
        have HN := hid hN
        have HL2' := hid HL2
        have hR5 := hR.later hb5
        clear hy5 hg5 hy4 hb4 hv5 hN HL2
        go_wp2_with fail
        refine (zznesting_any _ _ _ _ _ hrow5 HN.out.symm (by omega)).mono ?_
        rintro e w6 ⟨rfl, hw6, _, _⟩
        subst hw6
        go_wp2_with fail
        refine (zznesting_any _ _ _ _ _ hR5 HL2'.out (by omega)).mono ?_
        rintro e w7 ⟨rfl, hw7, hlo, hhi⟩
        subst hw7
        rw [show nest (91 :: (zs ++ [93])) = nest zs + 1 from by simpa using nest_wrap zs]
        generalize nest zs = M at *
        go_wp2
        go_ret
        exact ⟨ret_bool (by simp), (hb1.trans (hb5.mono hs1))⟩
end Go.Proofs.Qxb6003729a.Nest
