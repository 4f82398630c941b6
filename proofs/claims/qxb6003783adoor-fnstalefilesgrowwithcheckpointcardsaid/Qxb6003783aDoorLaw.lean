import Derived.Test.Qxb6003783aDoorLawA
import Derived.Deep.DeepCutAuto
namespace Go.Proofs.Qxb6003783aDoor.Stale
open Go.RowKit Mem Fmt
set_option linter.unusedVariables false

theorem own_nil {w w1 : World} {t : TypeId} {a : Option Addr} {n : Nat} {f : Nat → Value} (h : Own w w1 t a n f) : a = none → n = 0 := by
  intro e
  rcases h with ⟨_, h, _⟩ | ⟨h, _⟩
  · exact h
  · rw [e] at h; cases h

set_option maxRecDepth 100000 in
set_option maxHeartbeats 4000000 in
theorem law_any (a0 a1 a2 : Option Addr) (n0 n1 n2 p0 p1 p2 : Nat) (ss cs : List Nat) (un : List ByteArray) (lg : Bool) (c1 s1 c2 s2 : Nat) (w : World) (htab : Tab w)
    (hc1 : c1 < 18446744073709551616) (hs1 : s1 < 18446744073709551616) (hc2 : c2 < 18446744073709551616) (hs2 : s2 < 18446744073709551616)
    (hs : Row w a0 n0 (fun k => .int .u64 (ss.getD k 0 : Nat))) (hsl : ss.length = n0) (hsr : ∀ u ∈ ss, u < 18446744073709551616) (hsn : a0 = none → n0 = 0)
    (hc : Row w a1 n1 (fun k => .int .u64 (cs.getD k 0 : Nat))) (hcl : cs.length = n1) (hcr : ∀ u ∈ cs, u < 18446744073709551616) (hcn : a1 = none → n1 = 0)
    (hu : Row w a2 n2 (fun k => .string (un.getD k ByteArray.empty))) (hul : un.length = n2) (hun : a2 = none → n2 = 0)
    (m0 : n0 ≤ 9223372036854775807) (m1 : n1 ≤ 9223372036854775807) (m2 : n2 ≤ 9223372036854775807) :
    Calls Tryd.prog 3 #[.slice a0 n0 p0, .slice a1 n1 p1, .slice a2 n2 p2, .bool lg, .int .u64 c1, .int .u64 s1, .int .u64 c2, .int .u64 s2] w fun e w' => e = .returned (.bool true) ∧ Below w.heap.size w w' := by
  have HSL := hid hsl
  have HSR := hid hsr
  have HCL := hid hcl
  have HCR := hid hcr
  have HUL := hid hul
  have HB64 := hid (And.intro (And.intro hc1 hs1) (And.intro hc2 hs2))
  have HZ := hid (zzBytes_any a0 a1 a2 n0 n1 n2 p0 p1 p2 un lg c1 s1 c2 s2 w m0 m1 m2 hu)
  clear hsl hsr hcl hcr hul hc1 hs1 hc2 hs2
  go_enter Tryd.func3, Tryd.ntmps3
  go_wp2_with fail
  refine HZ.out.mono ?_
  rintro e w' ⟨⟨x, rfl, hx⟩, hw⟩
  subst hw
  clear HZ
  cases x with
  | false =>
    go_wp2
    go_ret
    exact ⟨rfl, Below.refl _ _⟩
  | true =>
    obtain ⟨k0, k1, k2, hall⟩ := hx rfl
    have HALL := hid hall
    clear hx hall m0 m1 m2
    by_cases hbig : 1048576 < 8 * n0 + 8 * n1 + 16 * n2
    · go_wp2
      go_ret
      exact ⟨rfl, Below.refl _ _⟩
    go_wp2
    go_loopw [17, 18] (fun st si wr => ∃ t k : Nat, k ≤ n2 ∧ t ≤ 1048576 ∧ st = .int .i64 t ∧ si = .int .i64 k ∧ wr = w') (fun _ si _ => n2 - (intOf si).toNat)
    case atStart => exact ⟨8 * n0 + 8 * n1 + 16 * n2, 0, by omega, by omega, by go_num, rfl, rfl⟩
    case round =>
      obtain ⟨t, k, hk, ht, rfl, rfl, rfl⟩ := hrel
      by_cases hlt : k < n2
      · rcases hu with h0 | ⟨b, off, rfl, hcc⟩
        · omega
        have hck : wr.cell? ⟨b, off + k, none⟩ = some (.string (un.getD k ByteArray.empty)) := hcc k hlt
        have hsz := HALL.out k hlt
        clear hcc
        generalize un.getD k ByteArray.empty = S at *
        by_cases hs2 : 1048576 < t + S.size
        · go_wp2
          go_ret
          exact ⟨rfl, Below.refl _ _⟩
        · go_wp2
          go_roundw
          case rel => exact ⟨t + S.size, k + 1, by omega, by omega, by go_num, by go_num, trivial⟩
          case measure => simp [intOf]; omega
      · obtain rfl : k = n2 := by omega
        clear hlt HALL
        by_cases hcc : c2 < c1
        · go_wp2
          go_ret
          exact ⟨rfl, Below.refl _ _⟩
        by_cases hss : s2 < s1
        · go_wp2
          go_ret
          exact ⟨rfl, Below.refl _ _⟩
        go_wp2_with fail
        refine (copyU64_any _ _ _ (fun k => (ss.getD k 0 : Nat)) _ hs hsn k0).mono ?_
        rintro e w1 ⟨A0, rfl, ho⟩
        have hb1 := ho.below
        have r0 := ho.row
        have n0' := own_nil ho
        have hc' := hc.later hb1
        have hu' := hu.later hb1
        have ht1 := htab.later hb1
        clear hs hsn hc hu htab ho
        go_wp2_with fail
        refine (copyU64_any _ _ _ (fun k => (cs.getD k 0 : Nat)) _ hc' hcn k1).mono ?_
        rintro e w2 ⟨A1, rfl, ho⟩
        have hb2 := hb1.trans (ho.below.mono hb1.size)
        have r1 := ho.row
        have n1' := own_nil ho
        have r0' := r0.later ho.below
        have hu'' := hu'.later ho.below
        have ht2 := ht1.later ho.below
        clear hc' hcn hu' ht1 r0 hb1 ho
        go_wp2_with fail
        refine (copyStr_any _ _ _ (fun k => un.getD k ByteArray.empty) _ hu'' hun k2).mono ?_
        rintro e w3 ⟨A2, rfl, ho⟩
        have hb3 := hb2.trans (ho.below.mono hb2.size)
        have r2 := ho.row
        have n2' := own_nil ho
        have r0 := r0'.later ho.below
        have r1' := r1.later ho.below
        have ht3 := ht2.later ho.below
        clear hu'' hun ht2 r0' r1 hb2 ho
        -- the first list
        go_wp2_with fail
        refine (copyU64_any _ _ _ (fun k => (ss.getD k 0 : Nat)) _ r0 n0' k0).mono ?_
        rintro e w4 ⟨B0, rfl, ho⟩
        have b4 := ho.below
        have q0 := ho.row
        clear ho
        go_wp2_with fail
        refine (copyU64_any _ _ _ (fun k => (cs.getD k 0 : Nat)) _ (r1'.later b4) n1' k1).mono ?_
        rintro e w5 ⟨B1, rfl, ho⟩
        have b5 := b4.trans (ho.below.mono b4.size)
        have q1 := ho.row
        have q0' := q0.later ho.below
        clear ho q0 b4
        go_wp2_with fail
        refine (copyStr_any _ _ _ (fun k => un.getD k ByteArray.empty) _ (r2.later b5) n2' k2).mono ?_
        rintro e w6 ⟨B2, rfl, ho⟩
        have b6 := b5.trans (ho.below.mono b5.size)
        have q2 := ho.row
        have m2' := own_nil ho
        have q0 := q0'.later ho.below
        have q1' := q1.later ho.below
        clear ho q0' q1 b5
        go_wp2_with fail
        refine (zzstale_any B0 B1 B2 n0 n1 k _ _ _ ss cs un lg c1 s1 w6 (ht3.later b6) q0 HSL.out HSR.out q1' HCL.out HCR.out q2 HUL.out m2' k2 k0 k1).mono ?_
        rintro e w7 ⟨va, rfl, hya, b7⟩
        obtain ⟨Aa, ca, rfl, ra⟩ := hya.row
        have b37 := b6.trans (b7.mono b6.size)
        clear q0 q1' q2 m2' b6 b7 hya
        have r0' := r0.later b37
        have r1 := r1'.later b37
        have r2' := r2.later b37
        have ht7 := ht3.later b37
        have hb7 := hb3.trans (b37.mono hb3.size)
        clear r0 r1' r2 ht3 b37 hb3
        -- the second list
        go_wp2_with fail
        refine (copyU64_any _ _ _ (fun k => (ss.getD k 0 : Nat)) _ r0' n0' k0).mono ?_
        rintro e w8 ⟨D0, rfl, ho⟩
        have b4 := ho.below
        have q0 := ho.row
        clear ho
        go_wp2_with fail
        refine (copyU64_any _ _ _ (fun k => (cs.getD k 0 : Nat)) _ (r1.later b4) n1' k1).mono ?_
        rintro e w9 ⟨D1, rfl, ho⟩
        have b5 := b4.trans (ho.below.mono b4.size)
        have q1 := ho.row
        have q0' := q0.later ho.below
        clear ho q0 b4
        go_wp2_with fail
        refine (copyStr_any _ _ _ (fun k => un.getD k ByteArray.empty) _ (r2'.later b5) n2' k2).mono ?_
        rintro e w10 ⟨D2, rfl, ho⟩
        have b6 := b5.trans (ho.below.mono b5.size)
        have q2 := ho.row
        have m2' := own_nil ho
        have q0 := q0'.later ho.below
        have q1' := q1.later ho.below
        clear ho q0' q1 b5
        go_wp2_with fail
        refine (zzstale_any D0 D1 D2 n0 n1 k _ _ _ ss cs un lg c2 s2 w10 (ht7.later b6) q0 HSL.out HSR.out q1' HCL.out HCR.out q2 HUL.out m2' k2 k0 k1).mono ?_
        rintro e w11 ⟨vb, rfl, hyb, b7⟩
        obtain ⟨Ab, cb, rfl, rb⟩ := hyb.row
        have b37 := b6.trans (b7.mono b6.size)
        clear q0 q1' q2 m2' b6 b7 hyb
        have r0 := r0'.later b37
        have r1' := r1.later b37
        have r2 := r2'.later b37
        have ra' := ra.later b37
        have hb11 := hb7.trans (b37.mono hb7.size)
        clear r0' r1 r2' ht7 b37 hb7 ra n0' n1' n2'
        have hla : (stale un cs ss c1 s1).length ≤ 1000000000 := by
          have h1 := nam_len cpN c1 cs
          have h2 := nam_len sgN s1 ss
          have h3 := HSL.out
          have h4 := HCL.out
          have h5 := HUL.out
          rw [stale, List.length_append, List.length_append]; omega
        have hlb : (stale un cs ss c2 s2).length ≤ 1000000000 := by
          have h1 := nam_len cpN c2 cs
          have h2 := nam_len sgN s2 ss
          have h3 := HSL.out
          have h4 := HCL.out
          have h5 := HUL.out
          rw [stale, List.length_append, List.length_append]; omega
        go_wp2_with fail
        refine (isSub_any Aa Ab _ _ ca cb (stale un cs ss c1 s1) (stale un cs ss c2 s2) w11 ra' rfl rb rfl hla hlb (stale_sub (by omega) (by omega))).mono ?_
        rintro e w12 ⟨rfl, hb⟩
        have R0 := hid (r0.later hb)
        have R1 := hid (r1'.later hb)
        have R2 := hid (r2.later hb)
        have RB := hid (rb.later hb)
        have hb12 := hb11.trans (hb.mono hb11.size)
        clear r0 r1' r2 rb ra' hb hb11 hla
        obtain ⟨N, hN⟩ : ∃ N, N = (stale un cs ss c2 s2).length := ⟨_, rfl⟩
        have hNl := stale_len un cs ss c2 s2
        rw [← hN, HUL.out] at hNl
        rw [← hN] at RB hlb ⊢
        have HN := hid hN
        have HNL := hid hNl
        obtain ⟨C, hC⟩ : ∃ C, C = (low c2 cs).length := ⟨_, rfl⟩
        obtain ⟨D, hD⟩ : ∃ D, D = (low s2 ss).length := ⟨_, rfl⟩
        rw [← hC, ← hD] at hNl
        have HC := hid hC
        have HD := hid hD
        clear hN hC hD HNL
        have hUN : k ≤ N := by omega
        go_wp2
        go_loopw [22] (fun i wx => ∃ j : Nat, j ≤ k ∧ i = .int .i64 j ∧ Below w12.heap.size w12 wx) (fun i _ => k - (intOf i).toNat)
        case atStart => exact ⟨0, by omega, rfl, Below.refl _ _⟩
        case round =>
          obtain ⟨j, hj, rfl, hbx⟩ := hrel
          by_cases hlt : j < k
          · have e1 : (stale un cs ss c2 s2).getD j ByteArray.empty = un.getD j ByteArray.empty := stale_un (by rw [HUL.out]; exact hlt)
            rcases R2.out with h0 | ⟨b, off, h1, hcc⟩
            · omega
            subst h1
            rcases RB.out with h0 | ⟨b', off', h1, hcc'⟩
            · omega
            subst h1
            have x1 : wr.cell? ⟨b, off + j, none⟩ = some (.string (un.getD j ByteArray.empty)) := cell_later hbx (hcc j hlt)
            have x2 : wr.cell? ⟨b', off' + j, none⟩ = some (.string (un.getD j ByteArray.empty)) := by
              rw [← e1]; exact cell_later hbx (hcc' j (by omega))
            clear hcc hcc' e1
            generalize un.getD j ByteArray.empty = S at *
            have hi1 : (j : Int) < (k : Int) := by omega
            have hi2 : (0 : Int) ≤ (j : Int) := by omega
            have hi3 : (j : Int) < (N : Int) := by omega
            go_wp2
            go_quiet (fail)
            go_wp2
            exact ⟨⟨j + 1, by omega, by go_num, below_drewN hbx _⟩, by simp [intOf]; omega⟩
          · obtain rfl : j = k := by omega
            clear hlt
            go_wp2
            go_loopw [23, 24, 25, 26] (fun sp sc si sk wx => ∃ p ph ci di : Nat, p ≤ C + D ∧ ci ≤ n1 ∧ di ≤ n0 ∧ sp = .int .i64 ph ∧ sc = .int .i64 ci ∧ si = .int .i64 di ∧ sk = .int .i64 ((j + p : Nat) : Int) ∧ Hid (low c2 (cs.drop ci) = (low c2 cs).drop p) ∧ Hid (low s2 (ss.drop di) = (low s2 ss).drop (p - C)) ∧ Hid (p ≤ C → ph = 1) ∧ Below w12.heap.size w12 wx) (fun _ _ _ sk _ => N - (intOf sk).toNat)
            case atStart => exact ⟨0, 1, 0, 0, by omega, by omega, by omega, rfl, rfl, rfl, by go_num, by simp [Hid], by simp [Hid], fun _ => rfl, hbx⟩
            case round =>
              clear hbx
              obtain ⟨p, ph, ci, di, hp, hci, hdi, rfl, rfl, rfl, rfl, h1, h2, h3, hbx⟩ := hrel
              by_cases hlt : p < C + D
              · by_cases hpC : p < C
                · have hpl : p < (low c2 cs).length := by rw [← HC.out]; exact hpC
                  have hnl := low_lt hpl
                  have hmem : (low c2 cs).getD p 0 ∈ cs := by
                    rw [show (low c2 cs).getD p 0 = (low c2 cs)[p] from by simp [List.getD, List.getElem?_eq_getElem hpl]]
                    exact (List.mem_filter.mp (List.getElem_mem hpl)).1
                  have hu64 := HCR.out _ hmem
                  have hdr := drop_cons (low c2 cs) p 0 hpl
                  rw [hdr] at h1
                  have e1 : (stale un cs ss c2 s2).getD (j + p) ByteArray.empty = cpN ((low c2 cs).getD p 0) := by
                    rw [← HUL.out]; exact stale_cp hpl
                  rcases RB.out with h0 | ⟨b', off', h1', hcc'⟩
                  · omega
                  subst h1'
                  have x2 : wr.cell? ⟨b', off' + (j + p), none⟩ = some (.string (cpN ((low c2 cs).getD p 0))) := by
                    rw [← e1]; exact cell_later hbx (hcc' (j + p) (by omega))
                  have hph := h3.out (by omega)
                  subst hph
                  clear hcc' e1 hdr hmem h3
                  generalize (low c2 cs).getD p 0 = u at *
                  have hi1 : ((j : Int) + (p : Int)) < (N : Int) := by omega
                  have hi2 : (0 : Int) ≤ (j : Int) + (p : Int) := by omega
                  go_wp2_with fail
                  refine (decode_cp u hu64 wr).mono ?_
                  rintro e w13 ⟨rfl, hb13⟩
                  have hbz := hbx.trans (hb13.mono hbx.size)
                  clear hb13 hbx x2
                  go_wp2
                  go_loopw [24] (fun sc wx => ∃ i : Nat, i ≤ n1 ∧ sc = .int .i64 i ∧ Hid (low c2 (cs.drop i) = u :: (low c2 cs).drop (p + 1)) ∧ wx = w13) (fun sc _ => n1 - (intOf sc).toNat)
                  case atStart => exact ⟨ci, hci, rfl, h1, rfl⟩
                  case round =>
                    clear h1 hci
                    obtain ⟨i, hi, rfl, h1, rfl⟩ := hrel
                    have hin : i < n1 := by
                      rcases Nat.lt_or_ge i n1 with h | h
                      · exact h
                      · exfalso
                        have e1 := h1.out
                        have e2 : cs.drop i = [] := List.drop_of_length_le (by rw [HCL.out]; exact h)
                        rw [e2] at e1
                        cases e1
                    have hil : i < cs.length := by rw [HCL.out]; exact hin
                    rcases R1.out with h0 | ⟨b1, o1, h1', hcc⟩
                    · omega
                    subst h1'
                    have x1 : wr.cell? ⟨b1, o1 + i, none⟩ = some (.int .u64 (cs.getD i 0 : Nat)) := cell_later hbz (hcc i hin)
                    have HSK := hid (fun h => low_skip (c := c2) hil h)
                    have HTK := hid (fun h => low_take (c := c2) hil h)
                    clear hcc hil
                    generalize cs.getD i 0 = y at *
                    have hj1 : (i : Int) < (n1 : Int) := by omega
                    have hj2 : (0 : Int) ≤ (i : Int) := by omega
                    by_cases hge : c2 ≤ y
                    · have HN1 : Hid (low c2 (cs.drop (i + 1)) = u :: (low c2 cs).drop (p + 1)) := (HSK.out hge).trans h1.out
                      clear HSK HTK h1
                      go_wp2
                      exact ⟨⟨i + 1, by omega, by go_num, HN1.out, trivial⟩, by simp [intOf]; omega⟩
                    · have hey := h1.out
                      rw [HTK.out (by omega)] at hey
                      injection hey with hey1 hey2
                      subst hey1
                      have HN1 := hid hey2
                      clear HSK HTK h1 hey2
                      have hyy : ((y : Int) != (y : Int)) = false := by simp
                      have hne : ((i : Int) == (n1 : Int)) = false := by simp; omega
                      have H2' : Hid (low s2 (ss.drop di) = (low s2 ss).drop (p + 1 - C)) := by rw [show p + 1 - C = p - C from by omega]; exact h2.out
                      go_wp2
                      exact ⟨⟨p + 1, 1, i + 1, di, by omega, by omega, hdi, by go_num, by go_num, rfl, by go_num, HN1.out, H2'.out, fun _ => rfl, hbz⟩, by simp [intOf]; omega⟩
                · obtain ⟨q, hq⟩ : ∃ q, p = C + q := ⟨p - C, by omega⟩
                  subst hq
                  rw [Nat.add_sub_cancel_left] at h2
                  have hpl : q < (low s2 ss).length := by rw [← HD.out]; omega
                  have hnl := low_lt hpl
                  have hmem : (low s2 ss).getD q 0 ∈ ss := by
                    rw [show (low s2 ss).getD q 0 = (low s2 ss)[q] from by simp [List.getD, List.getElem?_eq_getElem hpl]]
                    exact (List.mem_filter.mp (List.getElem_mem hpl)).1
                  have hu64 := HSR.out _ hmem
                  have hdr := drop_cons (low s2 ss) q 0 hpl
                  rw [hdr] at h2
                  have H1' : Hid (low c2 (cs.drop ci) = (low c2 cs).drop (C + q + 1)) := by
                    have z1 : (low c2 cs).drop (C + q) = [] := List.drop_of_length_le (by rw [← HC.out]; omega)
                    have z2 : (low c2 cs).drop (C + q + 1) = [] := List.drop_of_length_le (by rw [← HC.out]; omega)
                    show _ = _
                    rw [z2, h1.out, z1]
                  have e1 : (stale un cs ss c2 s2).getD (j + (C + q)) ByteArray.empty = sgN ((low s2 ss).getD q 0) := by
                    rw [← HUL.out, HC.out, ← Nat.add_assoc]; exact stale_sg hpl
                  rcases RB.out with h0 | ⟨b', off', h1', hcc'⟩
                  · omega
                  subst h1'
                  have x2 : wr.cell? ⟨b', off' + (j + (C + q)), none⟩ = some (.string (sgN ((low s2 ss).getD q 0))) := by
                    rw [← e1]; exact cell_later hbx (hcc' (j + (C + q)) (by omega))
                  clear hcc' e1 hdr hmem h3 h1
                  generalize (low s2 ss).getD q 0 = u at *
                  have hi1 : ((j : Int) + ((C : Int) + (q : Int))) < (N : Int) := by omega
                  have hi2 : (0 : Int) ≤ (j : Int) + ((C : Int) + (q : Int)) := by omega
                  go_wp2_with fail
                  refine (decode_sg u hu64 wr).mono ?_
                  rintro e w13 ⟨rfl, hb13⟩
                  have hbz := hbx.trans (hb13.mono hbx.size)
                  clear hb13 hbx x2
                  go_wp2
                  go_loopw [25] (fun sc wx => ∃ i : Nat, i ≤ n0 ∧ sc = .int .i64 i ∧ Hid (low s2 (ss.drop i) = u :: (low s2 ss).drop (q + 1)) ∧ wx = w13) (fun sc _ => n0 - (intOf sc).toNat)
                  case atStart => exact ⟨di, hdi, rfl, h2, rfl⟩
                  case round =>
                    clear h2 hdi
                    obtain ⟨i, hi, rfl, h1, rfl⟩ := hrel
                    have hin : i < n0 := by
                      rcases Nat.lt_or_ge i n0 with h | h
                      · exact h
                      · exfalso
                        have e1 := h1.out
                        have e2 : ss.drop i = [] := List.drop_of_length_le (by rw [HSL.out]; exact h)
                        rw [e2] at e1
                        cases e1
                    have hil : i < ss.length := by rw [HSL.out]; exact hin
                    rcases R0.out with h0 | ⟨b1, o1, h1', hcc⟩
                    · omega
                    subst h1'
                    have x1 : wr.cell? ⟨b1, o1 + i, none⟩ = some (.int .u64 (ss.getD i 0 : Nat)) := cell_later hbz (hcc i hin)
                    have HSK := hid (fun h => low_skip (c := s2) hil h)
                    have HTK := hid (fun h => low_take (c := s2) hil h)
                    clear hcc hil
                    generalize ss.getD i 0 = y at *
                    have hj1 : (i : Int) < (n0 : Int) := by omega
                    have hj2 : (0 : Int) ≤ (i : Int) := by omega
                    by_cases hge : s2 ≤ y
                    · have HN1 : Hid (low s2 (ss.drop (i + 1)) = u :: (low s2 ss).drop (q + 1)) := (HSK.out hge).trans h1.out
                      clear HSK HTK h1
                      go_wp2
                      exact ⟨⟨i + 1, by omega, by go_num, HN1.out, trivial⟩, by simp [intOf]; omega⟩
                    · have hey := h1.out
                      rw [HTK.out (by omega)] at hey
                      injection hey with hey1 hey2
                      subst hey1
                      have HN1 : Hid (low s2 (ss.drop (i + 1)) = (low s2 ss).drop (C + q + 1 - C)) := by rw [show C + q + 1 - C = q + 1 from by omega]; exact hey2
                      clear HSK HTK h1 hey2
                      have hyy : ((y : Int) != (y : Int)) = false := by simp
                      have hne : ((i : Int) == (n0 : Int)) = false := by simp; omega
                      go_wp2
                      exact ⟨⟨C + q + 1, 2, ci, i + 1, by omega, hci, by omega, by go_num, rfl, by go_num, by go_num, H1'.out, HN1.out, fun h => by omega, hbz⟩, by simp [intOf]; omega⟩
              · obtain rfl : p = C + D := by omega
                have z1 : (low s2 ss).drop (C + D - C) = [] := List.drop_of_length_le (by rw [← HD.out]; omega)
                have z2 : (low c2 cs).drop (C + D) = [] := List.drop_of_length_le (by rw [← HC.out]; omega)
                rw [z1] at h2
                rw [z2] at h1
                clear z1 z2
                clear hlt hp h3
                go_wp2
                go_loopw [24] (fun sc wx => ∃ i : Nat, i ≤ n1 ∧ sc = .int .i64 i ∧ Hid (low c2 (cs.drop i) = []) ∧ wx = wr) (fun sc _ => n1 - (intOf sc).toNat)
                case atStart => exact ⟨ci, hci, rfl, h1, rfl⟩
                case round =>
                  clear h1 hci
                  obtain ⟨i, hi, rfl, h1, rfl⟩ := hrel
                  by_cases hin : i < n1
                  · have hil : i < cs.length := by rw [HCL.out]; exact hin
                    rcases R1.out with h0 | ⟨b1, o1, h1', hcc⟩
                    · omega
                    subst h1'
                    have x1 : wr.cell? ⟨b1, o1 + i, none⟩ = some (.int .u64 (cs.getD i 0 : Nat)) := cell_later hbx (hcc i hin)
                    have hge : c2 ≤ cs.getD i 0 := by
                      rcases Nat.lt_or_ge (cs.getD i 0) c2 with h | h
                      · exfalso
                        have e1 := h1.out
                        rw [low_take hil h] at e1
                        cases e1
                      · exact h
                    have HN1 : Hid (low c2 (cs.drop (i + 1)) = []) := (low_skip hil hge).trans h1.out
                    clear hcc hil h1
                    generalize cs.getD i 0 = y at *
                    have hj1 : (i : Int) < (n1 : Int) := by omega
                    go_wp2
                    exact ⟨⟨i + 1, by omega, by go_num, HN1.out, trivial⟩, by simp [intOf]; omega⟩
                  · clear h1
                    go_wp2
                    go_loopw [25] (fun sc wx => ∃ d : Nat, d ≤ n0 ∧ sc = .int .i64 d ∧ Hid (low s2 (ss.drop d) = []) ∧ wx = wr) (fun sc _ => n0 - (intOf sc).toNat)
                    case atStart => exact ⟨di, hdi, rfl, h2, rfl⟩
                    case round =>
                      clear h2 hdi
                      obtain ⟨d, hd, rfl, h1, rfl⟩ := hrel
                      by_cases hdn : d < n0
                      · have hil : d < ss.length := by rw [HSL.out]; exact hdn
                        rcases R0.out with h0 | ⟨b1, o1, h1', hcc⟩
                        · omega
                        subst h1'
                        have x1 : wr.cell? ⟨b1, o1 + d, none⟩ = some (.int .u64 (ss.getD d 0 : Nat)) := cell_later hbx (hcc d hdn)
                        have hge : s2 ≤ ss.getD d 0 := by
                          rcases Nat.lt_or_ge (ss.getD d 0) s2 with h | h
                          · exfalso
                            have e1 := h1.out
                            rw [low_take hil h] at e1
                            cases e1
                          · exact h
                        have HN1 : Hid (low s2 (ss.drop (d + 1)) = []) := (low_skip hil hge).trans h1.out
                        clear hcc hil h1
                        generalize ss.getD d 0 = y at *
                        have hj1 : (d : Int) < (n0 : Int) := by omega
                        go_wp2
                        exact ⟨⟨d + 1, by omega, by go_num, HN1.out, trivial⟩, by simp [intOf]; omega⟩
                      · go_wp2
                        go_ret
                        exact ⟨rfl, hb12.trans (hbx.mono hb12.size)⟩
end Go.Proofs.Qxb6003783aDoor.Stale
