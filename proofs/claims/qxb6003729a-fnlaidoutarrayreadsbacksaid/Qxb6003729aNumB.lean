import Derived.Test.Qxb6003729aNumA
namespace Go.Proofs.Qxb6003729a.Num
open Go.RowKit Mem
set_option linter.unusedVariables false

/-- What number comes to: its answer, and where it stands if it says yes. -/
def Ans (w w' : World) (P : Nat) (a : Option Addr) (n cap : Nat) (t : ByteArray) (inc : Bool) (zs : List Int) (o : Option Nat) (e : Ending) : Prop :=
  e = .returned (.bool o.isSome) ∧ w.grownBy w' (some P) ∧ ∀ j, o = some j → Par w' P a n cap t inc zs j
theorem Ans.no {w w' : World} {P : Nat} {a : Option Addr} {n cap : Nat} {t : ByteArray} {inc : Bool} {zs : List Int} {o : Option Nat} (ho : o = none) (hg : w.grownBy w' (some P)) : Ans w w' P a n cap t inc zs o (.returned (.bool false)) := by
  subst ho; exact ⟨rfl, hg, fun j h => by cases h⟩
theorem Ans.yes {w w' : World} {P : Nat} {a : Option Addr} {n cap : Nat} {t : ByteArray} {inc : Bool} {zs : List Int} {o : Option Nat} {j : Nat} (ho : o = some j) (hg : w.grownBy w' (some P)) (hp : Par w' P a n cap t inc zs j) : Ans w w' P a n cap t inc zs o (.returned (.bool true)) := by
  subst ho; exact ⟨rfl, hg, fun k h => by cases h; exact hp⟩

set_option maxRecDepth 100000 in
set_option maxHeartbeats 8000000 in
theorem number_any (P : Nat) (a : Option Addr) (n cap : Nat) (t : ByteArray) (inc : Bool) (zs : List Int) (i : Nat) (w : World) (h : Par w P a n cap t inc zs i) :
    Calls Try.prog 33 #[.pointer (some ⟨P, 0, none⟩)] w fun e w' => Ans w w' P a n cap t inc zs (num zs i) e := by
  have hp := h
  have hn := h.n20
  have hg := grown_refl w (some P)
  clear h
  obtain ⟨R, hR⟩ : ∃ R, R = num zs i := ⟨_, rfl⟩
  rw [← hR]
  have HR : Hid (R = ((whole zs (sign zs i)).bind (frac zs)).bind (expo zs)) := hR
  clear hR
  go_enter Try.func33, Try.ntmps33
  go_upto_region 1 with fail
  go_cut [25] (fun v wx => v = .bool (atC zs i 45) ∧ w.grownBy wx (some P) ∧ Par wx P a n cap t inc zs i)
  case first => as_aux_lemma =>
    have c0 := cell_at hp.blk (j := 0) rfl
    have c2 := cell_at hp.blk (j := 2) rfl
    by_cases hlt : i < n
    · rcases hp.data with h0 | ⟨b, off, rfl, hne, hc⟩
      · omega
      have hck : (w).cell? ⟨b, off + i, none⟩ = some (.int .u8 (zs.getD i 0)) := hc i hlt
      have hat := hid (atC_in (c := 45) (show i < zs.length by rw [hp.len]; exact hlt))
      clear hc
      generalize zs.getD i 0 = c at *
      have hi1 : (i : Int) < (n : Int) := by omega
      have hi2 : (0 : Int) ≤ (i : Int) := by omega
      go_quiet (fail)
      go_wp2
      go_meet
      exact ⟨by rw [hat.out]; rfl, grown_drewN hg _, hp.drewN _⟩
    · have hf : decide ((i : Int) < (n : Int)) = false := by simpa using hlt
      have hat := hid (atC_end (c := 45) (show ¬ i < zs.length by rw [hp.len]; exact hlt))
      go_quiet (fail)
      go_wp2
      go_meet
      exact ⟨by rw [hat.out], grown_drewN hg _, hp.drewN _⟩
  case rest =>
    clear hp hg
    obtain ⟨rfl, hg, hp⟩ := hcut
    go_upto_if 25 with fail
    go_cut [] (fun wx => w.grownBy wx (some P) ∧ Par wx P a n cap t inc zs (sign zs i))
    case first => as_aux_lemma =>
      have c2 := cell_at hp.blk (j := 2) rfl
      have f2 := free_at hp.blk 2
      cases hb : atC zs i 45
      · have hs : Hid (sign zs i = i) := by show sign zs i = i; rw [sign, hb]; rfl
        go_wp2
        go_meet
        exact ⟨hg, by rw [hs.out]; exact hp⟩
      · have hs : Hid (sign zs i = i + 1) := by show sign zs i = i + 1; rw [sign, hb]; rfl
        have hle : i < n := by have := atC_lt hb; rw [hp.len] at this; exact this
        go_wp2
        go_meet
        exact ⟨grown_trans hg (grown_set _ _ _ _), by rw [hs.out]; exact hp.move (i + 1) (by omega)⟩
    case rest =>
      clear hp hg
      obtain ⟨hg, hp⟩ := hcut
      generalize sign zs i = i1 at *
      go_upto_region 3 with fail
      go_cut [55] (fun v wx => v = .bool (atC zs i1 48) ∧ w.grownBy wx (some P) ∧ Par wx P a n cap t inc zs i1)
      case first => as_aux_lemma =>
        have c0 := cell_at hp.blk (j := 0) rfl
        have c2 := cell_at hp.blk (j := 2) rfl
        by_cases hlt : i1 < n
        · rcases hp.data with h0 | ⟨b, off, rfl, hne, hc⟩
          · omega
          have hck : (wc).cell? ⟨b, off + i1, none⟩ = some (.int .u8 (zs.getD i1 0)) := hc i1 hlt
          have hat := hid (atC_in (c := 48) (show i1 < zs.length by rw [hp.len]; exact hlt))
          clear hc
          generalize zs.getD i1 0 = c at *
          have hi1 : (i1 : Int) < (n : Int) := by omega
          have hi2 : (0 : Int) ≤ (i1 : Int) := by omega
          go_quiet (fail)
          go_wp2
          go_meet
          exact ⟨by rw [hat.out]; rfl, grown_drewN hg _, hp.drewN _⟩
        · have hf : decide ((i1 : Int) < (n : Int)) = false := by simpa using hlt
          have hat := hid (atC_end (c := 48) (show ¬ i1 < zs.length by rw [hp.len]; exact hlt))
          go_quiet (fail)
          go_wp2
          go_meet
          exact ⟨by rw [hat.out], grown_drewN hg _, hp.drewN _⟩
      case rest =>
        clear hp hg
        obtain ⟨rfl, hg, hp⟩ := hcut
        go_upto_if 55 with fail
        go_cut [] (fun wx => ∃ i2, whole zs i1 = some i2 ∧ w.grownBy wx (some P) ∧ Par wx P a n cap t inc zs i2)
        case first => as_aux_lemma =>
          have c2 := cell_at hp.blk (j := 2) rfl
          have f2 := free_at hp.blk 2
          cases hb : atC zs i1 48
          · by_cases hd : dig (zs.drop i1) = 0
            · have hs : Hid (whole zs i1 = none) := by show whole zs i1 = none; rw [whole, hb, if_neg (by simp), if_pos hd]
              have hdz : (((dig (zs.drop i1) : Nat) : Int) == 0) = true := by rw [hd]; rfl
              go_wp2_with (go_at_call 39; refine (digits_any _ _ _ _ _ _ _ _ _ hp).mono ?_; rintro e w3 ⟨rfl, hg3, hp3⟩)
              go_ret
              exact Ans.no (by rw [HR.out, hs.out]; rfl) (grown_trans hg hg3)
            · have hs : Hid (whole zs i1 = some (i1 + dig (zs.drop i1))) := by show whole zs i1 = _; rw [whole, hb, if_neg (by simp), if_neg hd]
              have hdz : (((dig (zs.drop i1) : Nat) : Int) == 0) = false := by simpa using hd
              go_wp2_with (go_at_call 39; refine (digits_any _ _ _ _ _ _ _ _ _ hp).mono ?_; rintro e w3 ⟨rfl, hg3, hp3⟩)
              go_meet
              exact ⟨_, hs.out, grown_trans hg hg3, hp3⟩
          · have hs : Hid (whole zs i1 = some (i1 + 1)) := by show whole zs i1 = _; rw [whole, hb]; rfl
            have hle : i1 < n := by have := atC_lt hb; rw [hp.len] at this; exact this
            go_wp2
            go_meet
            exact ⟨_, hs.out, grown_trans hg (grown_set _ _ _ _), hp.move (i1 + 1) (by omega)⟩
        case rest =>
          clear hp hg
          obtain ⟨i2, hw, hg, hp⟩ := hcut
          have HR2 : Hid (R = (frac zs i2).bind (expo zs)) := by have := HR.out; rw [hw] at this; exact this
          clear hw HR
          go_upto_region 7 with fail
          go_cut [88] (fun v wx => v = .bool (atC zs i2 46) ∧ w.grownBy wx (some P) ∧ Par wx P a n cap t inc zs i2)
          case first => as_aux_lemma =>
            have c0 := cell_at hp.blk (j := 0) rfl
            have c2 := cell_at hp.blk (j := 2) rfl
            by_cases hlt : i2 < n
            · rcases hp.data with h0 | ⟨b, off, rfl, hne, hc⟩
              · omega
              have hck : (wc).cell? ⟨b, off + i2, none⟩ = some (.int .u8 (zs.getD i2 0)) := hc i2 hlt
              have hat := hid (atC_in (c := 46) (show i2 < zs.length by rw [hp.len]; exact hlt))
              clear hc
              generalize zs.getD i2 0 = c at *
              have hi1 : (i2 : Int) < (n : Int) := by omega
              have hi2 : (0 : Int) ≤ (i2 : Int) := by omega
              go_quiet (fail)
              go_wp2
              go_meet
              exact ⟨by rw [hat.out]; rfl, grown_drewN hg _, hp.drewN _⟩
            · have hf : decide ((i2 : Int) < (n : Int)) = false := by simpa using hlt
              have hat := hid (atC_end (c := 46) (show ¬ i2 < zs.length by rw [hp.len]; exact hlt))
              go_quiet (fail)
              go_wp2
              go_meet
              exact ⟨by rw [hat.out], grown_drewN hg _, hp.drewN _⟩
          case rest =>
            clear hp hg
            obtain ⟨rfl, hg, hp⟩ := hcut
            go_upto_if 88 with fail
            go_cut [] (fun wx => ∃ i3, frac zs i2 = some i3 ∧ w.grownBy wx (some P) ∧ Par wx P a n cap t inc zs i3)
            case first => as_aux_lemma =>
              have c2 := cell_at hp.blk (j := 2) rfl
              have f2 := free_at hp.blk 2
              cases hb : atC zs i2 46
              · have hs : Hid (frac zs i2 = some i2) := by show frac zs i2 = _; rw [frac, hb]; rfl
                go_wp2
                go_meet
                exact ⟨_, hs.out, hg, hp⟩
              · have hle : i2 < n := by have := atC_lt hb; rw [hp.len] at this; exact this
                have hp1 := hp.move (i2 + 1) (by omega)
                have hg1 := grown_trans hg (grown_set wc P 2 (.int .i64 ((i2 + 1 : Nat))))
                by_cases hd : dig (zs.drop (i2 + 1)) = 0
                · have hs : Hid (frac zs i2 = none) := by show frac zs i2 = none; rw [frac, hb, if_pos rfl, if_pos hd]
                  have hdz : (((dig (zs.drop (i2 + 1)) : Nat) : Int) == 0) = true := by rw [hd]; rfl
                  go_wp2_with (go_at_call 39; refine (digits_any _ _ _ _ _ _ _ _ _ hp1).mono ?_; rintro e w3 ⟨rfl, hg3, hp3⟩)
                  go_ret
                  exact Ans.no (by rw [HR2.out, hs.out]; rfl) (grown_trans hg1 hg3)
                · have hs : Hid (frac zs i2 = some (i2 + 1 + dig (zs.drop (i2 + 1)))) := by show frac zs i2 = _; rw [frac, hb, if_pos rfl, if_neg hd]
                  have hdz : (((dig (zs.drop (i2 + 1)) : Nat) : Int) == 0) = false := by simpa using hd
                  go_wp2_with (go_at_call 39; refine (digits_any _ _ _ _ _ _ _ _ _ hp1).mono ?_; rintro e w3 ⟨rfl, hg3, hp3⟩)
                  go_meet
                  exact ⟨_, hs.out, grown_trans hg1 hg3, hp3⟩
            case rest =>
              clear hp hg
              obtain ⟨i3, hw, hg, hp⟩ := hcut
              have HR3 : Hid (R = expo zs i3) := by have := HR2.out; rw [hw] at this; exact this
              clear hw HR2
              go_upto_region 11 with fail
              go_cut [134] (fun v wx => v = .bool (at2 zs i3 101 69) ∧ w.grownBy wx (some P) ∧ Par wx P a n cap t inc zs i3)
              case first => as_aux_lemma =>
                have c0 := cell_at hp.blk (j := 0) rfl
                have c2 := cell_at hp.blk (j := 2) rfl
                by_cases hlt : i3 < n
                · rcases hp.data with h0 | ⟨b, off, rfl, hne, hc⟩
                  · omega
                  have hck : (wc).cell? ⟨b, off + i3, none⟩ = some (.int .u8 (zs.getD i3 0)) := hc i3 hlt
                  have hat : Hid (at2 zs i3 101 69 = (decide (zs.getD i3 0 = 101) || decide (zs.getD i3 0 = 69))) := by
                    have hl' : i3 < zs.length := by rw [hp.len]; exact hlt
                    show at2 _ _ _ _ = _
                    rw [at2, atC_in hl', atC_in hl']
                  clear hc
                  generalize zs.getD i3 0 = c at *
                  have hi1 : (i3 : Int) < (n : Int) := by omega
                  have hi2 : (0 : Int) ≤ (i3 : Int) := by omega
                  cases hcc : (c == 101)
                  · have hat2 : Hid (at2 zs i3 101 69 = (c == 69)) := by
                      have := hat.out
                      rw [show decide (c = 101) = false from hcc, Bool.false_or] at this; exact this
                    go_quiet (fail)
                    go_wp2
                    go_meet
                    exact ⟨by rw [hat2.out], grown_drewN hg _, hp.drewN _⟩
                  · have hat2 : Hid (at2 zs i3 101 69 = true) := by
                      have := hat.out
                      rw [show decide (c = 101) = true from hcc, Bool.true_or] at this; exact this
                    go_quiet (fail)
                    go_wp2
                    go_meet
                    exact ⟨by rw [hat2.out], grown_drewN hg _, hp.drewN _⟩
                · have hf : decide ((i3 : Int) < (n : Int)) = false := by simpa using hlt
                  have hat : Hid (at2 zs i3 101 69 = false) := by
                    have hl' : ¬ i3 < zs.length := by rw [hp.len]; exact hlt
                    show at2 _ _ _ _ = _
                    rw [at2, atC_end hl', atC_end hl']; rfl
                  go_quiet (fail)
                  go_wp2
                  go_meet
                  exact ⟨by rw [hat.out], grown_drewN hg _, hp.drewN _⟩
              case rest =>
                clear hp hg
                obtain ⟨rfl, hg, hp⟩ := hcut
                go_upto_if 134 with fail
                cases hb : at2 zs i3 101 69
                · have hs : Hid (expo zs i3 = some i3) := by show expo zs i3 = _; rw [expo, hb]; rfl
                  go_wp2
                  go_ret
                  exact Ans.yes (by rw [HR3.out, hs.out]) hg hp
                · have hle : i3 < n := by have := at2_lt hb; rw [hp.len] at this; exact this
                  have c2 := cell_at hp.blk (j := 2) rfl
                  have f2 := free_at hp.blk 2
                  have hp1 : Par (wc.setCell ⟨P, 2, none⟩ (.int .i64 ((i3 : Int) + 1))) P a n cap t inc zs (i3 + 1) := hp.move (i3 + 1) (by omega)
                  have hg1 : w.grownBy (wc.setCell ⟨P, 2, none⟩ (.int .i64 ((i3 : Int) + 1))) (some P) := grown_trans hg (grown_set wc P 2 _)
                  have HR4 : Hid (R = if dig (zs.drop (esign zs (i3 + 1))) = 0 then none else some (esign zs (i3 + 1) + dig (zs.drop (esign zs (i3 + 1))))) := by
                    have := HR3.out; rw [expo, hb, if_pos rfl] at this; exact this
                  clear HR3
                  go_upto_region 13 with fail
                  clear c2 f2 hp hg
                  have hp := hp1
                  have hg := hg1
                  clear hp1 hg1
                  generalize wc.setCell ⟨P, 2, none⟩ (.int .i64 ((i3 : Int) + 1)) = w2 at *
                  obtain ⟨i4, hi4⟩ : ∃ i4, i4 = i3 + 1 := ⟨_, rfl⟩
                  rw [← hi4] at hp HR4
                  clear hi4 hle hb
                  go_cut [177] (fun v wx => v = .bool (at2 zs i4 43 45) ∧ w.grownBy wx (some P) ∧ Par wx P a n cap t inc zs i4)
                  case first => as_aux_lemma =>
                    have c0 := cell_at hp.blk (j := 0) rfl
                    have c2 := cell_at hp.blk (j := 2) rfl
                    by_cases hlt : i4 < n
                    · rcases hp.data with h0 | ⟨b, off, rfl, hne, hc⟩
                      · omega
                      have hck : (w2).cell? ⟨b, off + i4, none⟩ = some (.int .u8 (zs.getD i4 0)) := hc i4 hlt
                      have hat : Hid (at2 zs i4 43 45 = (decide (zs.getD i4 0 = 43) || decide (zs.getD i4 0 = 45))) := by
                        have hl' : i4 < zs.length := by rw [hp.len]; exact hlt
                        show at2 _ _ _ _ = _
                        rw [at2, atC_in hl', atC_in hl']
                      clear hc
                      generalize zs.getD i4 0 = c at *
                      have hi1 : (i4 : Int) < (n : Int) := by omega
                      have hi2 : (0 : Int) ≤ (i4 : Int) := by omega
                      cases hcc : (c == 43)
                      · have hat2 : Hid (at2 zs i4 43 45 = (c == 45)) := by
                          have := hat.out
                          rw [show decide (c = 43) = false from hcc, Bool.false_or] at this; exact this
                        go_quiet (fail)
                        go_wp2
                        go_meet
                        exact ⟨by rw [hat2.out], grown_drewN hg _, hp.drewN _⟩
                      · have hat2 : Hid (at2 zs i4 43 45 = true) := by
                          have := hat.out
                          rw [show decide (c = 43) = true from hcc, Bool.true_or] at this; exact this
                        go_quiet (fail)
                        go_wp2
                        go_meet
                        exact ⟨by rw [hat2.out], grown_drewN hg _, hp.drewN _⟩
                    · have hf : decide ((i4 : Int) < (n : Int)) = false := by simpa using hlt
                      have hat : Hid (at2 zs i4 43 45 = false) := by
                        have hl' : ¬ i4 < zs.length := by rw [hp.len]; exact hlt
                        show at2 _ _ _ _ = _
                        rw [at2, atC_end hl', atC_end hl']; rfl
                      go_quiet (fail)
                      go_wp2
                      go_meet
                      exact ⟨by rw [hat.out], grown_drewN hg _, hp.drewN _⟩
                  case rest =>
                    clear hp hg
                    obtain ⟨rfl, hg, hp⟩ := hcut
                    go_upto_if 177 with fail
                    go_cut [] (fun wx => w.grownBy wx (some P) ∧ Par wx P a n cap t inc zs (esign zs i4))
                    case first => as_aux_lemma =>
                      have c2 := cell_at hp.blk (j := 2) rfl
                      have f2 := free_at hp.blk 2
                      cases hb : at2 zs i4 43 45
                      · have hs : Hid (esign zs i4 = i4) := by show esign zs i4 = i4; rw [esign, hb]; rfl
                        go_wp2
                        go_meet
                        exact ⟨hg, by rw [hs.out]; exact hp⟩
                      · have hs : Hid (esign zs i4 = i4 + 1) := by show esign zs i4 = i4 + 1; rw [esign, hb]; rfl
                        have hle : i4 < n := by have := at2_lt hb; rw [hp.len] at this; exact this
                        go_wp2
                        go_meet
                        exact ⟨grown_trans hg (grown_set _ _ _ _), by rw [hs.out]; exact hp.move (i4 + 1) (by omega)⟩
                    case rest =>
                      clear hp hg
                      obtain ⟨hg, hp⟩ := hcut
                      generalize esign zs i4 = i5 at *
                      by_cases hd : dig (zs.drop i5) = 0
                      · have hs : Hid (R = none) := by have := HR4.out; rw [if_pos hd] at this; exact this
                        have hdz : (((dig (zs.drop i5) : Nat) : Int) == 0) = true := by rw [hd]; rfl
                        go_wp2_with (go_at_call 39; refine (digits_any _ _ _ _ _ _ _ _ _ hp).mono ?_; rintro e w3 ⟨rfl, hg3, hp3⟩)
                        go_ret
                        exact Ans.no hs.out (grown_trans hg hg3)
                      · have hs : Hid (R = some (i5 + dig (zs.drop i5))) := by have := HR4.out; rw [if_neg hd] at this; exact this
                        have hdz : (((dig (zs.drop i5) : Nat) : Int) == 0) = false := by simpa using hd
                        go_wp2_with (go_at_call 39; refine (digits_any _ _ _ _ _ _ _ _ _ hp).mono ?_; rintro e w3 ⟨rfl, hg3, hp3⟩)
                        go_ret
                        exact Ans.yes hs.out (grown_trans hg hg3) hp3
end Go.Proofs.Qxb6003729a.Num
