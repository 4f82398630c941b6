import Derived.Test.Qxb6003729aLayC
import Derived.Test.Qxb6003729aNestLaw
import Derived.Deep.RegionWith
namespace Go.Proofs.Qxb6003729a.Lay
open Go.RowKit Mem Num
set_option linter.unusedVariables false

theorem Try.info21 : (Try.prog.info? 21).map (fun i => (i.zero, i.size, i.bytes)) = some (some (.int .i32 0), 1, 4) := by kernel_rfl
theorem make_32 (n : Nat) (h : n ≤ 1048576) (w : World) : Sem.run Try.prog (Instr.makeSlice 33 (.int .i64 n) (.int .i64 n)) w = .ok (.slice (some ⟨w.heap.size, 0, none⟩) n n) (w.alloc (.cells (mk n (fun _ => .int .i32 0)) 21)) := by
  obtain ⟨i0, hi, hz0, hz1, hz2⟩ := info_parts Try.info21
  rw [run_make w 33 21 i0 _ Try.underlying33 hi hz0 .i64 .i64 n n (by omega) (by omega) (by rw [hz2]; omega) (by omega), hz1]
  rw [Int.toNat_natCast, made_one _ rfl]

set_option maxHeartbeats 400000 in
theorem clone32_any (a : Option Addr) (n cap : Nat) (z : Nat → Int) (w : World) (hr : Row w a n (fun k => .int .i32 (z k))) (hnil : a = none → n = 0) (hn : n ≤ 1048576) :
    Calls Try.prog 17 #[.slice a n cap] w fun e w' => RetOwn e w w' 21 n (fun k => .int .i32 (z k)) := by
  have hmk := make_32 n hn
  have heq := fun w => Lib.run_eql_slice_nil (P := Try.prog) w 33 21 a n cap 0 0 Try.underlying33
  cases a with
  | none =>
    have h0 := hnil rfl
    subst h0
    go_enter Try.func17, Try.ntmps17
    go_wp2
    go_ret
    exact ⟨none, rfl, Or.inl ⟨rfl, rfl, rfl⟩⟩
  | some ad =>
    clear hnil
    go_enter Try.func17, Try.ntmps17
    go_wp2
    clear hmk heq
    go_loopw [4] (fun i wr => ∃ (k : Nat) (arr : Array Value), k ≤ n ∧ i = .int .i64 k ∧ arr.size = n ∧ (∀ j, j < k → arr[j]? = some (.int .i32 (z j))) ∧ wr = w.alloc (.cells arr 21)) (fun i _ => n - (intOf i).toNat)
    case atStart => exact ⟨0, _, by omega, rfl, mk_size _ _, fun j hj => by omega, rfl⟩
    case round =>
      obtain ⟨k, arr, hk, rfl, hsz, hag, rfl⟩ := hrel
      by_cases hlt : k < n
      · rcases hr with h0 | ⟨b, off, hba, hc⟩
        · omega
        · injection hba with hba
          subst hba
          have hck : ∀ arr, (w.alloc (.cells arr 21)).cell? ⟨b, off + k, none⟩ = some (.int .i32 (z k)) := fun arr => Lib.cell?_alloc_some _ (hc k hlt)
          have hset := set_agrees hsz hag hlt
          obtain ⟨v0, hv0⟩ : ∃ v0, arr[k]? = some v0 := ⟨_, Array.getElem?_eq_getElem (by omega)⟩
          have HSZ : Hid (arr.size = n) := hsz
          have HSE : Hid (∀ j, j < k + 1 → (arr.setIfInBounds k (.int .i32 (z k)))[j]? = some (.int .i32 (z j))) := hset
          clear hc hag hset hsz
          go_wp2
          go_roundw
          case rel => exact ⟨k + 1, _, by omega, by go_num, by rw [Array.size_setIfInBounds]; exact HSZ.out, HSE.out, rfl⟩
          case measure => simp [intOf]; omega
      · obtain rfl : k = n := by omega
        have he := mk_of k _ arr hsz hag
        have HE : Hid (w.alloc (.cells arr 21) = w.alloc (.cells (mk k (fun k => .int .i32 (z k))) 21)) := by rw [he]; rfl
        clear he hag hsz
        go_wp2
        go_ret
        exact ⟨some ⟨w.heap.size, 0, none⟩, rfl, Or.inr ⟨rfl, HE.out⟩⟩


theorem zzBytes5_any (a : Option Addr) (n cap : Nat) (i : Int) (w : World) (m : n ≤ 9223372036854775807) :
    Calls Try.prog 16 #[.slice a n cap, .int .i64 i] w fun e w' => RetB e (fun x => x = true → n ≤ 1048576) ∧ w' = w := by
  by_cases h : 1048576 < n
  · go_enter Try.func16, Try.ntmps16
    go_wp2
    go_ret
    exact ⟨RetB.mk false (fun h => by cases h), rfl⟩
  · go_enter Try.func16, Try.ntmps16
    go_wp2
    go_ret
    exact ⟨RetB.mk true (fun _ => by omega), rfl⟩

theorem bytes_one (w : World) (c : Int) : Bytes (w.alloc (.cells #[.int .u8 c] 5)) w.heap.size (.slice (some ⟨w.heap.size, 0, none⟩) 1 1) [c] :=
  ⟨rfl, Or.inr ⟨w.heap.size, 1, #[.int .u8 c], rfl, Nat.le_refl _, heap_alloc_new _ _, Nat.le_refl _, by unfold maxLen; omega, rfl, rfl⟩⟩
theorem Bytes.form {w : World} {base : Nat} {v : Value} {xs : List Int} (h : Bytes w base v xs) : ∃ a cap, v = .slice a xs.length cap ∧ Row w a xs.length (fun k => .int .u8 (xs.getD k 0)) ∧ (a = none ∨ ∃ g, a = some ⟨g, 0, none⟩) ∧ xs.length ≤ cap ∧ cap ≤ 9223372036854775807 := by
  obtain ⟨a, cap, h1, h2⟩ := h.row
  refine ⟨a, cap, h1, h2, ?_⟩
  obtain ⟨_, h3⟩ := h
  rcases h3 with ⟨e, e0⟩ | ⟨g, cap', cur, e, _, _, e4, e5, _⟩
  · rw [e] at h1; injection h1 with h1 _ h3; exact ⟨Or.inl h1.symm, by omega, by omega⟩
  · rw [e] at h1; injection h1 with h1 _ h3; unfold maxLen at e5; exact ⟨Or.inr ⟨g, h1.symm⟩, by omega, by omega⟩

theorem slice_text (g N cap s e : Nat) (h1 : s ≤ e) (h2 : e ≤ N) (h3 : N ≤ cap) (h4 : s < cap) (w : World) :
    Sem.run Try.prog (Instr.slice 22 (.slice (some ⟨g, 0, none⟩) N cap) (some (.int .i64 s)) (some (.int .i64 e)) none) w = .ok (.slice (some ⟨g, s, none⟩) (e - s) (cap - s)) w := by
  have he : Try.prog.elem 22 = 5 := by kernel_rfl
  have hz : Sem.run Try.prog (sizeOf 5) w = .ok 1 w := by kernel_rfl
  rw [run_slice_lh w 22 _ N cap (by rw [he]; exact Try.underlying22) .i64 .i64 s e (by omega) (by omega) (by omega), he, hz]
  simp [Result.andThen, sliced, Addr.add]
  rw [if_neg (by omega)]
  split <;> simp_all

theorem below_of_grown {a b : World} (h : a.grownBy b none) : Below a.heap.size a b := ⟨h.os, h.tape, h.output, h.size, fun k hk => h.block k hk (by simp)⟩

set_option maxRecDepth 100000 in
set_option maxHeartbeats 3000000 in
theorem law_any (a : Option Addr) (n cap : Nat) (ms : List Int) (d : Int) (w : World) (hr : Row w a n (fun k => .int .i32 (ms.getD k 0))) (hl : ms.length = n) (hms : ∀ z ∈ ms, -2147483648 ≤ z ∧ z ≤ 2147483647) (hnil : a = none → n = 0) (m : n ≤ 9223372036854775807) :
    Calls Try.prog 5 #[.slice a n cap, .int .i64 d] w fun e w' => e = .returned (.bool true) ∧ Below w.heap.size w w' := by
  have HL := hid hl
  have HMS := hid hms
  clear hl hms
  go_enter Try.func5, Try.ntmps5
  go_wp2_with fail
  refine (zzBytes5_any _ _ _ _ _ m).mono ?_
  rintro e w' ⟨⟨x, rfl, hx⟩, hw⟩
  subst hw
  cases x with
  | false =>
    go_wp2
    go_ret
    exact ⟨rfl, Below.refl _ _⟩
  | true =>
    have hn := hx rfl
    clear hx m
    by_cases h12 : 4096 < n
    · go_wp2
      go_ret
      exact ⟨rfl, Below.refl _ _⟩
    by_cases hd0 : d < 0
    · go_wp2
      go_ret
      exact ⟨rfl, Below.refl _ _⟩
    by_cases hd1 : 16 < d
    · go_wp2
      go_ret
      exact ⟨rfl, Below.refl _ _⟩
    obtain ⟨d, rfl⟩ : ∃ k : Nat, d = k := ⟨d.toNat, by omega⟩
    go_wp2_with fail
    refine (clone32_any _ _ _ _ _ hr hnil hn).mono ?_
    rintro e w1 ⟨a', rfl, ho⟩
    have hb1 := ho.below
    have hs1 := hb1.size
    have hR := ho.row
    clear hr hnil ho
    have hz20 : Hid (∀ z ∈ ms, z.natAbs < 10 ^ 20) := fun z hz => by have := HMS.out z hz; omega
    have hget : Hid (∀ k, k < n → -2147483648 ≤ ms.getD k 0 ∧ ms.getD k 0 ≤ 2147483647) := fun k hk => by
      have hk' : k < ms.length := by rw [HL.out]; exact hk
      rw [show ms.getD k 0 = ms[k] from by simp [List.getD, List.getElem?_eq_getElem hk']]
      exact HMS.out _ (List.getElem_mem hk')
    have hlen : Hid (∀ k, (mem d 0 (ms.take k)).length ≤ 4096 * 57) := fun k => by
      have h1 := mem_len d 0 (ms.take k) (fun z hz => hz20.out z (List.mem_of_mem_take hz))
      have h2 : (ms.take k).length ≤ 4096 := by rw [List.length_take]; have := HL.out; omega
      have h3 : (ms.take k).length * (25 + 2 * d) ≤ 4096 * 57 := Nat.mul_le_mul h2 (by omega)
      show _ ≤ _; omega
    go_wp2
    go_loopw [5, 6] (fun v s wr => ∃ k : Nat, k ≤ n ∧ s = .int .i64 k ∧ Bytes wr w1.heap.size v (91 :: mem d 0 (ms.take k)) ∧ Below w1.heap.size w1 wr) (fun _ s _ => n - (intOf s).toNat)
    case atStart => exact ⟨0, by omega, rfl, bytes_one w1 91, (Below.refl _ _).alloc (Nat.le_refl _) _⟩
    case round =>
      obtain ⟨k, hk, rfl, hy, hb⟩ := hrel
      have hsz := hb.size
      have hlk := hlen.out k
      have hlx : (91 :: mem d 0 (ms.take k)).length ≤ 300000 := by rw [List.length_cons]; omega
      by_cases hlt : k < n
      · rcases hR with h0 | ⟨b, off, rfl, hc⟩
        · omega
        have hck : ∀ wx, Below w1.heap.size w1 wx → wx.cell? ⟨b, off + k, none⟩ = some (.int .i32 (ms.getD k 0)) := fun wx hx => cell_later hx (hc k hlt)
        have HCK := hid hck
        obtain ⟨z0, z1⟩ := hget.out k hlt
        have HNX := hid (mem_next d k ms (by rw [HL.out]; exact hlt))
        have hnl := nl_len k (d + 1)
        clear hck hc
        generalize ms.getD k 0 = z at *
        go_wp2_with fail
        rw [show ((d : Int) + 1) = ((d + 1 : Nat) : Int) from by omega]
        refine (zznewline_any _ (91 :: mem d 0 (ms.take k)) k (d + 1) w1.heap.size _ hy (by omega) (by omega) (by omega) hsz).mono ?_
        rintro e w2 ⟨v2, rfl, hy2, hb2⟩
        have hb12 := hb.trans hb2
        have hs2 := hb12.size
        have hcz := HCK.out w2 hb12
        have hl2 : ((91 :: mem d 0 (ms.take k)) ++ nl k (d + 1)).length ≤ 400000 := by rw [List.length_append]; omega
        go_wp2_with fail
        refine (decimal_any _ _ z w1.heap.size _ hy2 (by omega) z0 z1 hs2).mono ?_
        rintro e w3 ⟨v3, rfl, hy3, hb3⟩
        have HY3 : Hid (Bytes w3 w1.heap.size v3 (91 :: mem d 0 (ms.take (k + 1)))) := by
          rw [HNX.out]
          have := hy3
          simp only [List.cons_append, List.append_assoc] at this
          exact this
        have HB3 := hid (hb12.trans hb3)
        clear hy3 hb3 hy2 hb2 hy hb hcz hb12
        go_wp2
        go_roundw
        case rel => exact ⟨k + 1, by omega, by go_num, HY3.out, HB3.out⟩
        case measure => simp [intOf]; omega
      · obtain rfl : k = n := by omega
        rw [List.take_of_length_le (by rw [HL.out]; exact Nat.le_refl _)] at hy hlx
        go_wp2_with fail
        refine (zzclose_any _ _ k d w1.heap.size _ hy (by omega) (by omega) (by omega) hsz).mono ?_
        rintro e w2 ⟨v2, rfl, hy2, hb2⟩
        have hb12 := hb.trans hb2
        clear hb2 hb hy
        have HT : Hid ((91 :: mem d 0 ms) ++ clos k d = text ms d) := by show _ = _; rw [text, HL.out]; rfl
        rw [HT.out] at hy2
        have htl : (text ms d).length ≤ 400000 := by
          rw [← HT.out, List.length_append]; have := clos_len k d; omega
        obtain ⟨av, cv, hv2, hrow, hta, hNc, hcm⟩ := Lay.Bytes.form hy2
        subst hv2
        obtain ⟨N, hN⟩ : ∃ N, N = (text ms d).length := ⟨_, rfl⟩
        rw [← hN] at hrow hNc htl ⊢
        have HN := hid hN
        clear hN hy2
        go_wp2_with fail
        refine (Nest.zznesting_any _ _ _ _ _ hrow HN.out.symm (by omega)).mono ?_
        rintro e w3 ⟨rfl, hw3, _, _⟩
        subst hw3
        rw [nest_text ms d hz20.out]
        go_wp2_with fail
        refine (newParser_any av N cv (text ms d) 0 _ hrow HN.out.symm hta (by omega) (by omega)).mono ?_
        rintro e w4 ⟨rfl, hp4, hb4⟩
        have HT0 : Hid ((text ms d).drop 0 = 91 :: (mem d 0 ms ++ clos k d)) := by show _ = _; rw [List.drop_zero, text, HL.out]
        have hR3 := hR.later hb12
        have hbtop : Below w'.heap.size w' w3 := hb1.trans (hb12.mono hs1)
        have hstop := hbtop.size
        have HBT := hid hbtop
        obtain ⟨S, hS⟩ : ∃ S, S = strOfNums (text ms d) := ⟨_, rfl⟩
        rw [← hS] at hp4
        obtain ⟨T, hTT⟩ : ∃ T, T = text ms d := ⟨_, rfl⟩
        rw [← hTT] at hp4 hrow HN HT0
        obtain ⟨P, hP⟩ : ∃ P, P = w3.heap.size := ⟨_, rfl⟩
        have HPP := hid hP
        rw [← hP] at hp4 hb4 ⊢
        clear hS hTT hP HT hb12 hR hbtop hb1 hs1
        go_wp2_with fail
        have hA0 : sp (T.drop 0) = 0 := by rw [HT0.out, sp_no (by rfl)]
        refine (zznext_any P av N cv S false T 0 91 _ hp4 (by rw [hA0, Nat.add_zero, atC_cons HT0.out]; rfl)).mono ?_
        rintro e w5 ⟨rfl, hg5, hp5⟩
        rw [hA0] at hp5
        have hb5 : Below P w3 w5 := hb4.grown hg5 (by have := hb4.size; have := HPP.out; omega) (fun q hq => by cases hq; exact Nat.le_refl _)
        have HD1 : Hid (T.drop 1 = mem d 0 (ms.drop 0) ++ clos k d) := by
          show _ = _; rw [drop_succ HT0.out, List.drop_zero]
        clear hA0 hg5 hb4 hp4
        go_wp2
        go_loopw [8] (fun s wr => ∃ j p : Nat, j ≤ k ∧ s = .int .i64 j ∧ Par wr P av N cv S false T p ∧ Hid (T.drop p = mem d j (ms.drop j) ++ clos k d) ∧ Below P w3 wr) (fun s _ => k - (intOf s).toNat)
        case atStart => exact ⟨0, 1, by omega, rfl, hp5, HD1.out, hb5⟩
        case round =>
          clear hp5 HD1 hb5
          obtain ⟨j, p, hj, rfl, hp, hdr, hb⟩ := hrel
          by_cases hlt : j < k
          · have hdz : T.drop p = mem d j (ms.getD j 0 :: ms.drop (j + 1)) ++ clos k d := by
              have := hdr.out
              rw [mem_drop d j ms (by rw [HL.out]; exact hlt)] at this; exact this
            obtain ⟨zl, zh⟩ := hget.out j hlt
            have HZ20 : Hid ((ms.getD j 0).natAbs < 10 ^ 20) := by show _ < _; omega
            rcases hR3 with h0 | ⟨b, off, rfl, hc⟩
            · omega
            have hck : ∀ wx, Below P w3 wx → wx.cell? ⟨b, off + j, none⟩ = some (.int .i32 (ms.getD j 0)) := fun wx hx => cell_later (by rw [HPP.out] at hx; exact hx) (hc j hlt)
            have HCK := hid hck
            have HDZ := hid hdz
            have HSZ : Hid (∀ wx, Below P w3 wx → P ≤ wx.heap.size) := fun wx hx => by have := hx.size; have := HPP.out; omega
            clear hdr hdz hck hc
            generalize ms.getD j 0 = z at *
            go_upto_region 23 with fail
            go_cut [70] (fun v wx => v = .bool false ∧ Par wx P av N cv S false T (p1 j p) ∧ Below P w3 wx)
            case first =>
              by_cases hj0 : 0 < j
              · obtain ⟨y1, y2⟩ := comma HDZ.out hj0
                have HP1 : Hid (p1 j p = p + 1) := by show p1 j p = _; rw [p1, if_pos hj0]
                have HN1 := hid (zznext_any P av N cv S false T p 44 wr hp (by rw [y1, Nat.add_zero]; exact y2))
                rw [y1, Nat.add_zero] at HN1
                clear y1 y2
                go_wp2_with (go_at_call 21; refine HN1.out.mono ?_; rintro e w6 ⟨rfl, hg6, hp6⟩)
                go_meet
                exact ⟨rfl, by rw [HP1.out]; exact hp6, hb.grown hg6 (HSZ.out _ hb) (fun q hq => by cases hq; exact Nat.le_refl _)⟩
              · have HP1 : Hid (p1 j p = p) := by show p1 j p = _; rw [p1, if_neg hj0]
                go_wp2_with fail
                go_meet
                exact ⟨rfl, by rw [HP1.out]; exact hp, hb⟩
            case rest =>
              clear hp hb
              obtain ⟨rfl, hp, hb⟩ := hcut
              have hbl := blanks HDZ.out HZ20.out
              have HME := hid (member HDZ.out)
              have hEN : Ends (mem d (j + 1) (ms.drop (j + 1)) ++ clos k d) := tail_ends d j k _ (by omega)
              have HNU := hid (num_dec HME.out hEN HZ20.out)
              obtain ⟨hdl1, hdl0⟩ := dec_len z HZ20.out
              have hin := len_drop HME.out hdl0
              rw [← HN.out] at hin
              have HGD := hid (fun q => getD_drop HME.out q)
              have HNX : Hid (T.drop (p2 d j p + (dec z).length) = mem d (j + 1) (ms.drop (j + 1)) ++ clos k d) := drop_add HME.out
              go_wp2_with fail
              refine (zzskip_any P av N cv S false T (p1 j p) _ hp).mono ?_
              rintro e w6 ⟨rfl, hg6, hp6⟩
              rw [hbl] at hp6
              have hb6 := hb.grown hg6 (HSZ.out _ hb) (fun q hq => by cases hq; exact Nat.le_refl _)
              clear hbl hp hb hg6 hEN
              generalize p2 d j p = s at *
              go_wp2_with fail
              refine (pos_any _ _ _ _ _ _ _ _ _ hp6).mono ?_
              rintro e w7 ⟨rfl, hw7⟩
              subst hw7
              go_wp2_with fail
              refine (zznumber_any _ _ _ _ _ _ _ _ _ hp6).mono ?_
              rintro e w8 ⟨he, hg8, hp8⟩
              have hp9 := hp8 _ HNU.out
              rw [HNU.out] at he
              subst he
              have hb8 := hb6.grown hg8 (HSZ.out _ hb6) (fun q hq => by cases hq; exact Nat.le_refl _)
              clear hp8 hg8 hp6 hb6
              obtain ⟨en, hen⟩ : ∃ en, en = s + (dec z).length := ⟨_, rfl⟩
              have HEN := hid hen
              have hse : s ≤ en := by omega
              have heN : en ≤ N := by omega
              rw [← hen] at hp9
              clear hen
              go_wp2_with fail
              refine (pos_any _ _ _ _ _ _ _ _ _ hp9).mono ?_
              rintro e w9 ⟨rfl, hw9⟩
              subst hw9
              go_upto_region 32 with fail
              go_cut [104] (fun v wx => v = .bool false ∧ Par wx P av N cv S false T en ∧ Below P w3 wx)
              case first =>
                obtain ⟨M, hM⟩ : ∃ M, M = (dec z).length := ⟨_, rfl⟩
                have hMe : en = s + M := by rw [hM]; exact HEN.out
                have HM := hid hM
                rw [← hM] at hdl1 hdl0
                obtain ⟨g, rfl⟩ : ∃ g, av = some ⟨g, 0, none⟩ := by
                  rcases hta with h | h
                  · subst h
                    rcases hrow with h0 | ⟨_, _, h1, _⟩
                    · omega
                    · cases h1
                  · exact h
                have hrow' : ∀ q, q < N → w3.cell? ⟨g, q, none⟩ = some (.int .u8 (T.getD q 0)) := by
                  intro q hq
                  rcases hrow with h0 | ⟨b1, o1, h1, h2⟩
                  · omega
                  · injection h1 with h1
                    injection h1 with e1 e2 _
                    subst e1 e2
                    have := h2 q hq
                    rw [Nat.zero_add] at this; exact this
                have HRW : Hid (∀ wx, Below P w3 wx → Row wx (some ⟨g, s, none⟩) M (fun q => .int .u8 ((dec z).getD q 0))) := by
                  intro wx hx
                  refine Or.inr ⟨g, s, rfl, fun q hq => ?_⟩
                  show wx.cell? _ = some (.int .u8 ((dec z).getD q 0))
                  rw [← HGD.out q (by rw [← HM.out]; exact hq)]
                  exact cell_later (by rw [HPP.out] at hx; exact hx) (hrow' (s + q) (by omega))
                have hsl : ∀ w, Sem.run Try.prog (Instr.slice 22 (.slice (some ⟨g, 0, none⟩) N cv) (some (.int .i64 s)) (some (.int .i64 en)) none) w = .ok (.slice (some ⟨g, s, none⟩) M (cv - s)) w := by
                  intro w
                  have := slice_text g N cv s en hse heN hNc (by omega) w
                  rw [show en - s = M from by omega] at this; exact this
                have hcz := HCK.out w9 hb8
                have hi1 : (j : Int) < (k : Int) := by omega
                have hi2 : (0 : Int) ≤ (j : Int) := by omega
                have hi3 : (0 : Int) ≤ (s : Int) := by omega
                have hi4 : (s : Int) ≤ (en : Int) := by omega
                have hi5 : (en : Int) ≤ (cv : Int) := by omega
                have HMe := hid hMe
                have HP9 := hid hp9
                have hPs := HSZ.out _ hb8
                clear hM hMe hrow hrow' hin hp9
                have hwz : IntKind.i64.wrap z = z := by rw [IntKind.wrap_i64]; omega
                go_region_with (first | (go_at_call 19; refine (decimal_any (.slice none 0 0) [] z w9.heap.size _ ?_ ?_ zl zh ?_).mono ?_; exact World.ownsRow_nil _ _ _ _; exact Nat.zero_le _; exact Nat.le_refl _; rintro e w10 ⟨v10, rfl, hy10, hb10⟩; obtain ⟨a10, c10, hv10, hr10⟩ := hy10.row; subst hv10; rw [List.nil_append, ← HM.out] at hr10; rw [List.nil_append, ← HM.out]) | (go_at_call 23; refine (equal_any _ _ M _ _ (fun q => (dec z).getD q 0) _ ?_ ?_ ?_).mono ?_; exact HRW.out _ (hb8.drew.trans (hb10.mono hPs)); exact hr10; omega; rintro e w11 ⟨rfl, hg11⟩))
                all_goals go_wp2_with fail
                all_goals go_meet
                all_goals exact ⟨rfl, (HP9.out.kept (((Below.refl w9.heap.size w9).drew.trans hb10).trans ((below_of_grown hg11).mono hb10.size))), (hb8.drew.trans (hb10.mono hPs)).trans ((below_of_grown hg11).mono (Nat.le_trans hPs hb10.size))⟩
              case rest =>
                clear hp9 hb8
                obtain ⟨rfl, hp10, hb10⟩ := hcut
                have HQ : Hid (T.drop en = mem d (j + 1) (ms.drop (j + 1)) ++ clos k d) := by rw [HEN.out]; exact HNX.out
                go_wp2
                go_roundw
                case rel => exact ⟨j + 1, en, by omega, by go_num, hp10, HQ.out, hb10⟩
                case measure => simp [intOf]; omega
          · obtain rfl : j = k := by omega
            have hcl : T.drop p = clos j d := by
              have := hdr.out
              rw [show ms.drop j = [] from List.drop_of_length_le (by rw [HL.out]; exact Nat.le_refl _), mem, List.nil_append] at this; exact this
            obtain ⟨q1, q2⟩ := closing hcl
            have Q2 := hid q2
            clear hcl hdr q2
            go_wp2_with fail
            refine (zznext_any P av N cv S false T p 93 _ hp q1).mono ?_
            rintro e w6 ⟨rfl, hg6, hp6⟩
            rw [Q2.out, HN.out.symm] at hp6
            have hb6 : Below P w3 w6 := hb.grown hg6 (by have := hb.size; have := HPP.out; omega) (fun q hq => by cases hq; exact Nat.le_refl _)
            go_wp2_with fail
            refine (pos_any _ _ _ _ _ _ _ _ _ hp6).mono ?_
            rintro e w7 ⟨rfl, hw7⟩
            subst hw7
            go_wp2
            go_ret
            exact ⟨ret_bool (by simp), HBT.out.trans (hb6.mono (by have := HPP.out; omega))⟩
end Go.Proofs.Qxb6003729a.Lay
