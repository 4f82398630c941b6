import Derived.Test.Qxb6003729aNumB
import Derived.Test.Qxb6003729aNumC
import Derived.Deep.CutBlock
namespace Go.Proofs.Qxb6003729a.Num
open Go.RowKit Mem
set_option linter.unusedVariables false

theorem conv_bytes {w : World} {a : Option Addr} {n cap : Nat} {zs : List Int} (h : Row w a n (fun k => .int .u8 (zs.getD k 0))) (hl : zs.length = n) (hta : a = none ∨ ∃ g, a = some ⟨g, 0, none⟩) :
    Sem.run Try.prog (convert 22 9 (.slice a n cap)) w = .ok (.string (strOfNums zs)) w := by
  rcases h with h0 | ⟨b, off, rfl, hc⟩
  · subst h0
    obtain rfl : zs = [] := List.length_eq_zero_iff.mp hl
    rcases hta with rfl | ⟨g, rfl⟩
    · exact run_convert_bytes_nil w 22 5 Try.underlying22 Try.underlying5 0 cap 9 Try.underlying9
    · exact run_convert_bytes_arg w 22 5 Try.underlying22 Try.underlying5 g 0 0 cap [] rfl (fun i hi => by omega) 9 Try.underlying9
  · exact run_convert_bytes_arg w 22 5 Try.underlying22 Try.underlying5 b off n cap zs hl hc 9 Try.underlying9

theorem cell_block {w : World} {b o : Nat} {v : Value} (h : w.cell? ⟨b, o, none⟩ = some v) : b < w.heap.size := by
  rcases Nat.lt_or_ge b w.heap.size with h1 | h1
  · exact h1
  · simp only [World.cell?] at h; rw [Array.getElem?_eq_none h1] at h; simp at h

set_option maxHeartbeats 800000 in
theorem newParser_any (a : Option Addr) (n cap : Nat) (zs : List Int) (i : Nat) (w : World) (h : Row w a n (fun k => .int .u8 (zs.getD k 0))) (hl : zs.length = n) (hta : a = none ∨ ∃ g, a = some ⟨g, 0, none⟩) (hn : n ≤ 1048576) (hi : i ≤ n) :
    Calls Try.prog 13 #[.slice a n cap, .int .i64 i] w fun e w' => e = .returned (.pointer (some ⟨w.heap.size, 0, none⟩)) ∧ Par w' w.heap.size a n cap (strOfNums zs) false zs i ∧ Below w.heap.size w w' := by
  have hcv := conv_bytes (cap := cap) h hl hta
  have HP : Hid (Par (w.alloc (.cells #[.slice a n cap, .string (strOfNums zs), .int .i64 i, .bool false] 68)) w.heap.size a n cap (strOfNums zs) false zs i) := by
    refine ⟨hl, hn, hi, heap_alloc_new _ _, ?_⟩
    rcases h with h0 | ⟨b, off, h1, hc⟩
    · exact Or.inl h0
    · rcases Nat.eq_zero_or_pos n with h0 | h0
      · exact Or.inl h0
      · exact Or.inr ⟨b, off, h1, by have := cell_block (hc 0 h0); omega, fun k hk => Lib.cell?_alloc_some _ (hc k hk)⟩
  clear h hl hta
  generalize strOfNums zs = S at *
  go_enter Try.func13, Try.ntmps13
  go_wp2
  go_ret
  exact ⟨rfl, HP.out, (Below.refl _ _).alloc (Nat.le_refl _) _⟩

theorem zznumber_any (P : Nat) (a : Option Addr) (n cap : Nat) (t : ByteArray) (inc : Bool) (zs : List Int) (i : Nat) (w : World) (h : Par w P a n cap t inc zs i) :
    Calls Try.prog 14 #[.pointer (some ⟨P, 0, none⟩)] w fun e w' => Ans w w' P a n cap t inc zs (num zs i) e := by
  go_enter Try.func14, Try.ntmps14
  go_wp2_with fail
  refine (number_any P a n cap t inc zs i w h).mono ?_
  rintro e w1 ⟨rfl, hg, hp⟩
  go_wp2
  go_ret
  exact ⟨rfl, hg, hp⟩

theorem pos_any (P : Nat) (a : Option Addr) (n cap : Nat) (t : ByteArray) (inc : Bool) (zs : List Int) (i : Nat) (w : World) (h : Par w P a n cap t inc zs i) :
    Calls Try.prog 15 #[.pointer (some ⟨P, 0, none⟩)] w fun e w' => e = .returned (.int .i64 i) ∧ w' = w := by
  have c2 := cell_at h.blk (j := 2) rfl
  go_enter Try.func15, Try.ntmps15
  go_wp2
  go_ret
  exact ⟨rfl, rfl⟩

theorem zzBytes4_any (a : Option Addr) (n cap : Nat) (i : Int) (w : World) (m : n ≤ 9223372036854775807) :
    Calls Try.prog 10 #[.slice a n cap, .int .i64 i] w fun e w' => RetB e (fun x => x = true → n ≤ 1048576) ∧ w' = w := by
  by_cases h : 1048576 < n
  · go_enter Try.func10, Try.ntmps10
    go_wp2
    go_ret
    exact ⟨RetB.mk false (fun h => by cases h), rfl⟩
  · go_enter Try.func10, Try.ntmps10
    go_wp2
    go_ret
    exact ⟨RetB.mk true (fun _ => by omega), rfl⟩

set_option maxHeartbeats 4000000 in
theorem law_any (a : Option Addr) (n cap : Nat) (zs : List Int) (i : Int) (w : World) (hr : Row w a n (fun k => .int .u8 (zs.getD k 0))) (hl : zs.length = n) (hnil : a = none → n = 0) (m : n ≤ 9223372036854775807) :
    Calls Try.prog 4 #[.slice a n cap, .int .i64 i] w fun e w' => e = .returned (.bool true) ∧ Below w.heap.size w w' := by
  have HL := hid hl
  clear hl
  go_enter Try.func4, Try.ntmps4
  go_wp2_with fail
  refine (zzBytes4_any _ _ _ _ _ m).mono ?_
  rintro e w' ⟨⟨x, rfl, hx⟩, hw⟩
  subst hw
  cases x with
  | false =>
    go_wp2
    go_ret
    exact ⟨rfl, Below.refl _ _⟩
  | true =>
    have hn := hx rfl
    clear hx m
    by_cases h16 : 65536 < n
    · go_wp2
      go_ret
      exact ⟨rfl, Below.refl _ _⟩
    · by_cases hi0 : i < 0
      · go_wp2
        go_ret
        exact ⟨rfl, Below.refl _ _⟩
      · by_cases hi1 : (n : Int) < i
        · go_wp2
          go_ret
          exact ⟨rfl, Below.refl _ _⟩
        · obtain ⟨i, rfl⟩ : ∃ k : Nat, i = k := ⟨i.toNat, by omega⟩
          go_wp2_with fail
          refine (cloneBytes_any _ _ _ _ _ hr hnil hn).mono ?_
          rintro e w1 ⟨a', rfl, ho⟩
          have hb1 := ho.below
          have hs1 := hb1.size
          have hR := ho.row
          have hta : a' = none ∨ ∃ g, a' = some ⟨g, 0, none⟩ := by rcases ho with ⟨h, _, _⟩ | ⟨h, _⟩; exact Or.inl h; exact Or.inr ⟨_, h⟩
          clear hr hnil ho
          go_upto_block 0 with fail
          go_cut [5, 6, 7, 8] (fun s5 s6 s7 s8 wx => wx = w1 ∧ ∃ (L : Int) (V : Nat), s6 = .int .i64 L ∧ s7 = .int .i64 V ∧ -1 ≤ L ∧ L ≤ V ∧ V ≤ n ∧ Hid (Fp zs 0 i = ((Fp zs 0 i).1, i + V)) ∧ Hid (if acc (Fp zs 0 i).1 then L = V else L < V))
          case first =>
            go_wp2_with fail
            go_loopg [5, 6, 7, 8] (n - i) (fun g s5 s6 s7 s8 wx => wx = w1 ∧ ∃ (s j : Nat) (L : Int), s5 = .int .i64 s ∧ s6 = .int .i64 L ∧ s7 = .int .i64 (j - i : Nat) ∧ s8 = .int .i64 j ∧ s ≤ 8 ∧ i ≤ j ∧ j ≤ n ∧ g = n - j ∧ -1 ≤ L ∧ L ≤ (j - i : Nat) ∧ Hid (Fp zs 0 i = Fp zs s j) ∧ Hid (if acc s then L = (j - i : Nat) else L < (j - i : Nat)))
            case atStart => exact ⟨rfl, 0, i, -1, rfl, rfl, by simp, rfl, by omega, by omega, by omega, rfl, by omega, by omega, rfl, by show (if acc 0 then _ else _); rw [if_neg (by decide)]; omega⟩
            case round =>
              obtain ⟨rfl, s, j, L, rfl, rfl, rfl, rfl, hs8, hij, hjn, rfl, hL0, hL1, hF, hA⟩ := hrel
              by_cases hlt : j < n
              · rcases hR with h0 | ⟨b, off, rfl, hc⟩
                · omega
                have hck : wr.cell? ⟨b, off + j, none⟩ = some (.int .u8 (zs.getD j 0)) := hc j hlt
                have hjl : j < zs.length := by rw [HL.out]; exact hlt
                have hstop : Hid (step s (zs.getD j 0) < 0 → Fp zs s j = (s, j)) := fun h => Fp_stop zs s j hjl h
                have hgo : Hid (∀ t : Nat, step s (zs.getD j 0) = t → Fp zs s j = Fp zs t (j + 1)) := fun t h => Fp_go zs s t j hjl h
                have hrg := step_range s (zs.getD j 0)
                clear hc hjl
                generalize zs.getD j 0 = c at *
                rcases hrg with hm | ⟨t, ht, ht8⟩
                · have E : Hid (Fp zs 0 i = (s, j)) := hF.out.trans (hstop.out (by rw [hm]; decide))
                  have hst := step_any s c wr hs8
                  rw [hm] at hst
                  have HST := hid hst
                  clear hst hm hstop hgo hF
                  go_wp2_with (go_at_call 11; refine HST.out.mono ?_; rintro e w2 ⟨rfl, hw2⟩; subst hw2)
                  go_meet
                  refine ⟨rfl, L, j - i, rfl, rfl, hL0, hL1, by omega, ?_, ?_⟩
                  · show _ = _; rw [E.out]; simp; omega
                  · rw [E.out]; exact hA.out
                · have E : Hid (Fp zs 0 i = Fp zs t (j + 1)) := hF.out.trans (hgo.out t ht)
                  have hst := step_any s c wr hs8
                  rw [ht] at hst
                  have HST := hid hst
                  clear hst ht hstop hgo hF
                  cases hac : acc t
                  · have HAC := hid (acc_any t wr ht8)
                    rw [hac] at HAC
                    go_wp2_with (first | (go_at_call 11; refine HST.out.mono ?_; rintro e w2 ⟨rfl, hw2⟩; subst hw2) | (go_at_call 12; refine HAC.out.mono ?_; rintro e w2 ⟨rfl, hw2⟩; subst hw2))
                    go_roundg (n - (j + 1))
                    case measure => omega
                    case rel => exact ⟨rfl, t, j + 1, L, rfl, rfl, by go_num, by go_num, ht8, by omega, by omega, rfl, hL0, by omega, E.out, by show (if acc t then _ else _); rw [hac, if_neg (by simp)]; omega⟩
                  · have HAC := hid (acc_any t wr ht8)
                    rw [hac] at HAC
                    go_wp2_with (first | (go_at_call 11; refine HST.out.mono ?_; rintro e w2 ⟨rfl, hw2⟩; subst hw2) | (go_at_call 12; refine HAC.out.mono ?_; rintro e w2 ⟨rfl, hw2⟩; subst hw2))
                    go_roundg (n - (j + 1))
                    case measure => omega
                    case rel => exact ⟨rfl, t, j + 1, (j + 1 - i : Nat), rfl, by go_num, by go_num, by go_num, ht8, by omega, by omega, rfl, by omega, by omega, E.out, by show (if acc t then _ else _); rw [hac, if_pos rfl]⟩
              · have E : Hid (Fp zs 0 i = (s, j)) := hF.out.trans (Fp_end zs s j (by rw [HL.out]; exact hlt))
                clear hF
                go_wp2
                go_meet
                refine ⟨rfl, L, j - i, rfl, rfl, hL0, hL1, by omega, ?_, ?_⟩
                · show _ = _; rw [E.out]; simp; omega
                · rw [E.out]; exact hA.out
          case rest =>
            obtain ⟨hwc, L, V, rfl, rfl, hL0, hL1, hV, hF, hA⟩ := hcut
            subst hwc
            have hnum := num_auto zs i
            rw [ans, hF.out] at hnum
            have HN := hid hnum
            clear hnum hF
            generalize (Fp zs 0 i).1 = S at *
            cases hS : acc S
            · have hlt : L < V := by have := hA.out; rw [hS, if_neg (by simp)] at this; exact this
              have hN2 : Hid (num zs i = none) := by have := HN.out; simp only [hS] at this; exact this
              clear HN hA hS
              have hq : ((V : Int) == L) = false := by simp; omega
              by_cases hLz : 0 ≤ L
              all_goals
                go_wp2_with fail
                refine (newParser_any _ _ _ zs i _ hR HL.out hta hn (by omega)).mono ?_
                rintro e w2 ⟨rfl, hp2, hb2⟩
                go_wp2_with fail
                refine (zznumber_any _ _ _ _ _ _ _ _ _ hp2).mono ?_
                rintro e w3 ⟨he, hg3, hp3⟩
                rw [hN2.out] at he
                subst he
                go_wp2
                go_ret
                exact ⟨rfl, (hb1.trans ((hb2.grown hg3 hb2.size (fun k hk => by cases hk; exact Nat.le_refl _)).mono hs1))⟩
            · have hLV : L = V := by have := hA.out; rw [hS, if_pos rfl] at this; exact this
              have hN2 : Hid (num zs i = some (i + V)) := by have := HN.out; simp only [hS] at this; exact this
              subst hLV
              clear HN hA hS
              go_wp2_with fail
              refine (newParser_any _ _ _ zs i _ hR HL.out hta hn (by omega)).mono ?_
              rintro e w2 ⟨rfl, hp2, hb2⟩
              go_wp2_with fail
              refine (zznumber_any _ _ _ _ _ _ _ _ _ hp2).mono ?_
              rintro e w3 ⟨he, hg3, hp3⟩
              have hp4 := hp3 _ hN2.out
              rw [hN2.out] at he
              subst he
              clear hp3
              go_wp2_with fail
              refine (pos_any _ _ _ _ _ _ _ _ _ hp4).mono ?_
              rintro e w4 ⟨rfl, hw4⟩
              subst hw4
              go_wp2
              go_ret
              exact ⟨ret_bool (by simp), (hb1.trans ((hb2.grown hg3 hb2.size (fun k hk => by cases hk; exact Nat.le_refl _)).mono hs1))⟩
end Go.Proofs.Qxb6003729a.Num
