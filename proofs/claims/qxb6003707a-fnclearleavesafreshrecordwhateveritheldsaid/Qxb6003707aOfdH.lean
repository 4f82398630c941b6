import Derived.Test.Qxb6003707aOfdG
namespace Go.Proofs.Qxb6003707a.Ofd
open Go.RowKit
set_option linter.unusedVariables false

/-! ### zzBlank -/
theorem take_snoc (B : List Int) (p : Nat) (v : Int) (h : B[p]? = some v) : B.take (p + 1) = B.take p ++ [v] := by
  obtain ⟨hp, hv⟩ := List.getElem?_eq_some_iff.mp h
  rw [List.take_succ_eq_append_getElem hp, hv]

set_option maxHeartbeats 1600000 in
theorem blank_any (a0 a1 : Option Addr) (n c0 c1 : Nat) (ts : List ByteArray) (ws : List Int) (w : World) (hr0 : Row w a0 n (fun k => .string (ts.getD k ByteArray.empty))) (hr1 : Row w a1 n (fun k => .int .i64 (ws.getD k 0)))
    (hlen : ts.length = ws.length) (hwl : ws.length = n) (hn : n ≤ 1000) (hz : ∀ k, k < n → 0 ≤ ws.getD k 0 ∧ ws.getD k 0 ≤ 1000) :
    Calls Try.prog 29 #[.slice a0 n c0, .slice a1 n c1] w fun e w' => ∃ v, e = .returned v ∧ w'.ownsRow w.heap.size 5 1 v (psum ws n) ((blank ts ws).map (.int .u8)) ∧ Below w.heap.size w w' := by
  have hB : (blank ts ws).length = psum ws n := by rw [blank_len ts ws hlen, hwl]
  have HB := hid (psum_bound ws n hwl hz)
  have HS : Hid (∀ k, k < n → psum ws (k + 1) = psum ws k + (ws.getD k 0).toNat) := fun k hk => psum_succ ws k (by omega)
  have HMO : Hid (∀ k, k ≤ n → psum ws k ≤ psum ws n) := fun k hk => by have := psum_mono ws k (by omega); rw [hwl] at this; exact this
  have HG : Hid (∀ k d, k < n → d < (ws.getD k 0).toNat → (blank ts ws)[psum ws k + d]? = some (pad (ts.getD k ByteArray.empty))) := fun k d hk hd => blank_get ts ws k d hlen (by omega) hd
  have HZ := hid hz
  have HBL := hid hB
  have h0 : psum ws 0 = 0 := psum_zero ws
  clear hlen hwl hz hB
  obtain ⟨i0, hi, hi0, hi1, hi2⟩ := info_parts Try.info5
  go_enter Try.func29, Try.ntmps29
  go_wp2
  go_loopw [5, 6] (fun v i wr => ∃ k : Nat, k ≤ n ∧ i = .int .i64 k ∧ wr.ownsRow w.heap.size 5 1 v (psum ws k) (((blank ts ws).take (psum ws k)).map (.int .u8)) ∧ Below w.heap.size w wr) (fun _ i _ => n - (intOf i).toNat)
  case atStart => exact ⟨0, by omega, rfl, by rw [h0]; exact World.ownsRow_nil _ _ _ _, Below.refl _ _⟩
  case round =>
    clear h0
    obtain ⟨k, hk, rfl, hown, hb⟩ := hrel
    by_cases hlt : k < n
    · rcases hr0 with h0 | ⟨b0, o0, rfl, hc0⟩
      · omega
      rcases hr1 with h0 | ⟨b1, o1, rfl, hc1⟩
      · omega
      have hk0 : ∀ wx, Below w.heap.size w wx → wx.cell? ⟨b0, o0 + k, none⟩ = some (.string (ts.getD k ByteArray.empty)) := fun wx hx => cell_later hx (hc0 k hlt)
      have hk1 : ∀ wx, Below w.heap.size w wx → wx.cell? ⟨b1, o1 + k, none⟩ = some (.int .i64 (ws.getD k 0)) := fun wx hx => cell_later hx (hc1 k hlt)
      obtain ⟨z0, z1⟩ := HZ.out k hlt
      have hps := HS.out k hlt
      have hpb := HB.out k hk
      have hpm := HMO.out (k + 1) hlt
      have hpn := HB.out n (Nat.le_refl _)
      have HGK : Hid (∀ d, d < (ws.getD k 0).toNat → (blank ts ws)[psum ws k + d]? = some (pad (ts.getD k ByteArray.empty))) := fun d hd => HG.out k d hlt hd
      have HPS := hid hps
      have hm2 : psum ws k + (ws.getD k 0).toNat ≤ 1000000 := by omega
      clear hc0 hc1 HG HS HMO HB hps hpm hpn
      have r0 := hk0 wr hb
      generalize ws.getD k 0 = W at *
      generalize ts.getD k ByteArray.empty = S at *
      generalize psum ws k = Pk at *
      obtain ⟨wk, rfl⟩ : ∃ wk : Nat, W = wk := ⟨W.toNat, by omega⟩
      rw [Int.toNat_natCast] at hm2
      have HK1 := hid hk1
      clear hk0 hk1
      cases hN : (S.toList == [78])
      · have hpad : Hid (pad S = 32) := pad_text hN
        go_wp2
        go_loopw [5, 8] (fun v j wi => ∃ d : Nat, d ≤ wk ∧ j = .int .i64 d ∧ wi.ownsRow w.heap.size 5 1 v (Pk + d) (((blank ts ws).take (Pk + d)).map (.int .u8)) ∧ Below w.heap.size w wi) (fun _ j _ => wk - (intOf j).toNat)
        case atStart => exact ⟨0, by omega, rfl, hown, hb⟩
        case round =>
          clear hown hb r0
          obtain ⟨d, hd, rfl, hown, hb⟩ := hrel
          have hc := HK1.out wr hb
          by_cases hdw : d < wk
          · have hbz := hb.size
            go_wp2_with (at_builtin; refine wpList_append_own _ rfl _ _ 44 rfl w.heap.size 5 i0 (.int .u8 0) 1 1 Try.underlying44 hi hi0 hi1 hi2 rfl (by decide) _ _ _ rfl (hown.alloc _) ⟨wr.heap.size, 0, none⟩ 1 1 [.int .u8 32] rfl rfl ?c1 ?c2 ?c3 ?c4 ?c5 ?_)
            case c1 =>
              intro j u hj
              match j, hj with
              | 0, hj => simp at hj; subst hj; simp [Addr.add]
            case c2 => intro u hu; simp at hu; subst hu; rfl
            case c3 => unfold maxLen; omega
            case c4 => omega
            case c5 => simp; omega
            · intro v' w1 hown' hgrow _
              have hsn := take_snoc (blank ts ws) (Pk + d) 32 ((HGK.out d (by omega)).trans (by rw [hpad.out]))
              have ho2 : w1.ownsRow w.heap.size 5 1 v' (Pk + (d + 1)) (((blank ts ws).take (Pk + (d + 1))).map (.int .u8)) := by
                rw [← Nat.add_assoc, hsn, List.map_append, List.map_take]; exact hown'
              have hb2 : Below w.heap.size w w1 := (hb.alloc hbz _).grown hgrow (by simp; omega) (fun q hq => (hown.lt q hq).1)
              have HO2 := hid ho2
              have HB2 := hid hb2
              clear ho2 hb2 hown' hgrow hown hb hsn hc
              go_wp2
              go_roundw
              case rel => exact ⟨d + 1, by omega, by go_num, HO2.out, HB2.out⟩
              case measure => simp [intOf]; omega
          · obtain rfl : d = wk := by omega
            have HO2 := hid hown
            have HB2 := hid hb
            clear hown hb
            go_wp2
            go_roundw
            case rel => exact ⟨k + 1, by omega, by go_num, by have := HO2.out; rw [HPS.out]; simpa using this, HB2.out⟩
            case measure => simp [intOf]; omega
      · have hpad : Hid (pad S = 48) := pad_num hN
        go_wp2
        go_loopw [5, 8] (fun v j wi => ∃ d : Nat, d ≤ wk ∧ j = .int .i64 d ∧ wi.ownsRow w.heap.size 5 1 v (Pk + d) (((blank ts ws).take (Pk + d)).map (.int .u8)) ∧ Below w.heap.size w wi) (fun _ j _ => wk - (intOf j).toNat)
        case atStart => exact ⟨0, by omega, rfl, hown, hb⟩
        case round =>
          clear hown hb r0
          obtain ⟨d, hd, rfl, hown, hb⟩ := hrel
          have hc := HK1.out wr hb
          by_cases hdw : d < wk
          · have hbz := hb.size
            go_wp2_with (at_builtin; refine wpList_append_own _ rfl _ _ 44 rfl w.heap.size 5 i0 (.int .u8 0) 1 1 Try.underlying44 hi hi0 hi1 hi2 rfl (by decide) _ _ _ rfl (hown.alloc _) ⟨wr.heap.size, 0, none⟩ 1 1 [.int .u8 48] rfl rfl ?c1 ?c2 ?c3 ?c4 ?c5 ?_)
            case c1 =>
              intro j u hj
              match j, hj with
              | 0, hj => simp at hj; subst hj; simp [Addr.add]
            case c2 => intro u hu; simp at hu; subst hu; rfl
            case c3 => unfold maxLen; omega
            case c4 => omega
            case c5 => simp; omega
            · intro v' w1 hown' hgrow _
              have hsn := take_snoc (blank ts ws) (Pk + d) 48 ((HGK.out d (by omega)).trans (by rw [hpad.out]))
              have ho2 : w1.ownsRow w.heap.size 5 1 v' (Pk + (d + 1)) (((blank ts ws).take (Pk + (d + 1))).map (.int .u8)) := by
                rw [← Nat.add_assoc, hsn, List.map_append, List.map_take]; exact hown'
              have hb2 : Below w.heap.size w w1 := (hb.alloc hbz _).grown hgrow (by simp; omega) (fun q hq => (hown.lt q hq).1)
              have HO2 := hid ho2
              have HB2 := hid hb2
              clear ho2 hb2 hown' hgrow hown hb hsn hc
              go_wp2
              go_roundw
              case rel => exact ⟨d + 1, by omega, by go_num, HO2.out, HB2.out⟩
              case measure => simp [intOf]; omega
          · obtain rfl : d = wk := by omega
            have HO2 := hid hown
            have HB2 := hid hb
            clear hown hb
            go_wp2
            go_roundw
            case rel => exact ⟨k + 1, by omega, by go_num, by have := HO2.out; rw [HPS.out]; simpa using this, HB2.out⟩
            case measure => simp [intOf]; omega
    · obtain rfl : k = n := by omega
      have HO := hid hown
      have HBL2 := hid hb
      clear hown hb
      go_wp2
      go_ret
      refine ⟨_, rfl, ?_, HBL2.out⟩
      have := HO.out
      rw [List.take_of_length_le (by rw [HBL.out]; exact Nat.le_refl _)] at this
      exact this
end Go.Proofs.Qxb6003707a.Ofd
