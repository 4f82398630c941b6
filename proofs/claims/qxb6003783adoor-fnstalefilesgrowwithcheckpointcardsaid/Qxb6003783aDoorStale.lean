import Derived.Test.Qxb6003783aDoorFmt
import Derived.Maps.AppendAt
import Derived.Laws.AppendOwnNone
namespace Go.Proofs.Qxb6003783aDoor.Stale
open Go.RowKit Mem Fmt
set_option linter.unusedVariables false

/-- The call's own strings. -/
def Strs (w : World) (base : Nat) (v : Value) (xs : List ByteArray) : Prop := w.ownsRow base 9 1 v xs.length (xs.map .string)
theorem Strs.lt {w : World} {base : Nat} {v : Value} {xs : List ByteArray} (h : Strs w base v xs) : ∀ q, v.ownBlock = some q → base ≤ q := fun q hq => (World.ownsRow.lt h q hq).1
theorem Strs.lower {w : World} {base b : Nat} {v : Value} {xs : List ByteArray} (h : Strs w base v xs) (hb : b ≤ base) : Strs w b v xs := by
  obtain ⟨h1, h2⟩ := h
  refine ⟨h1, ?_⟩
  rcases h2 with h2 | ⟨g, cap, cur, e1, e2, e3⟩
  · exact Or.inl h2
  · exact Or.inr ⟨g, cap, cur, e1, Nat.le_trans hb e2, e3⟩
theorem str_one (l : List ByteArray) : ∀ u ∈ l.map Value.string, u.oneCell' = true := by
  intro u hu
  simp only [List.mem_map] at hu
  obtain ⟨b, _, rfl⟩ := hu
  rfl
/-- 'ss = append(ss, s)'. -/
theorem append_str {w0 : World} {ops : Array Oper} {rest : List Oper} {o : Oper} {a : Act} {Q : Exit → Act → World → Prop} (hgd : o.guard = none) (s x : Operand)
    (ho : o.op = .call { callee := .builtin .append, args := #[s, x], argTypes := #[23, 23] }) (base : Nat) (xs : List ByteArray) (v : Value) (hs : a.eval s = v) (hown : Strs w0 base v xs) (c : ByteArray)
    (hx : a.eval x = .slice (some ⟨w0.heap.size, 0, none⟩) 1 1) (hb : xs.length ≤ 1000000000) (hbase : base ≤ w0.heap.size)
    (h : ∀ v' w', Strs w' base v' (xs ++ [c]) → w0.grownBy w' v.ownBlock → wpList Tryd.prog ops Q rest (a.put o.dst v') w') :
    wpList Tryd.prog ops Q (o :: rest) a (w0.alloc (.cells #[.string c] 9)) := by
  obtain ⟨i0, hi, hz0, hz1, hz2⟩ := info_parts Tryd.info9
  refine wpList_append_own _ hgd s x 23 ho base 9 i0 (.string ByteArray.empty) 1 16 Tryd.underlying23 hi hz0 hz1 hz2 rfl (by decide) v xs.length (xs.map .string) hs (World.ownsRow.alloc hown _) ⟨w0.heap.size, 0, none⟩ 1 1 [.string c] hx rfl (cell_one_new _ _ _) (str_one [c]) (by unfold maxLen; omega) (by omega) (by simp; omega) ?_
  intro v' w' h1 h2 _
  refine h v' w' ?_ (grown_trans (grown_alloc _ _ _) h2)
  unfold Strs
  rw [List.length_append, List.map_append]; exact h1
theorem Strs.row {w : World} {base : Nat} {v : Value} {xs : List ByteArray} (h : Strs w base v xs) : ∃ a cap, v = .slice a xs.length cap ∧ Row w a xs.length (fun k => .string (xs.getD k ByteArray.empty)) := by
  have h' := h
  obtain ⟨hl, hx⟩ := h
  rcases hx with ⟨hv, hm⟩ | ⟨g, cap, cur, hv, _⟩
  · exact ⟨none, 0, by rw [hv, hm], Or.inl hm⟩
  · subst hv
    refine ⟨_, cap, rfl, Or.inr ⟨g, 0, rfl, fun k hk => ?_⟩⟩
    rw [Nat.zero_add, World.ownsRow.cellAt h' k (by omega)]
    simp [List.getD, List.getElem?_eq_getElem hk]

/-- 'slices.Clone' of a slice of strings. -/
theorem clone_any (a : Option Addr) (n cap : Nat) (xs : List ByteArray) (w : World) (hl : xs.length = n) (hr : Row w a n (fun k => .string (xs.getD k ByteArray.empty))) (hnil : a = none → n = 0) (hn : n ≤ 1048576) :
    Calls Tryd.prog 12 #[.slice a n cap] w fun e w' => ∃ v', e = .returned v' ∧ Strs w' w.heap.size v' xs ∧ Below w.heap.size w w' := by
  cases a with
  | none =>
    have h0 := hnil rfl
    subst h0
    refine (Tryd.slices_Clone_string_nil 0 cap w).mono ?_
    rintro e w' ⟨rfl, rfl⟩
    refine ⟨_, rfl, ?_, Below.refl _ _⟩
    have : xs = [] := List.eq_nil_of_length_eq_zero hl
    subst this; exact World.ownsRow_nil _ _ _ _
  | some ad =>
    rcases Nat.eq_zero_or_pos n with h0 | h0
    · subst h0
      refine (Tryd.slices_Clone_string_zero ad cap w).mono ?_
      rintro e w' ⟨v', rfl, h1, _, h2⟩
      refine ⟨_, rfl, ?_, h2⟩
      have : xs = [] := List.eq_nil_of_length_eq_zero hl
      subst this; exact h1
    · rcases hr with h | ⟨b, off, h1, h2⟩
      · omega
      · injection h1 with h1
        subst h1
        refine (Tryd.slices_Clone_string b off n cap xs w (by omega) (by omega) (fun j hj => h2 j (by omega))).mono ?_
        rintro e w' ⟨v', rfl, h1, _, h2⟩
        refine ⟨_, rfl, ?_, h2⟩
        rw [List.take_of_length_le (by omega)] at h1
        unfold Strs
        rw [hl]; exact h1

/-- The names of those below c. -/
def nam (N : Nat → ByteArray) (c : Nat) (us : List Nat) : List ByteArray := (us.filter (fun u => decide (u < c))).map N
theorem take_one {us : List Nat} {k : Nat} (hk : k < us.length) : us.take (k + 1) = us.take k ++ [us.getD k 0] := by
  rw [List.take_add_one, List.getElem?_eq_getElem hk]
  simp [List.getD, List.getElem?_eq_getElem hk]
theorem nam_yes {N : Nat → ByteArray} {c : Nat} {us : List Nat} {k : Nat} (hk : k < us.length) (h : us.getD k 0 < c) : nam N c (us.take (k + 1)) = nam N c (us.take k) ++ [N (us.getD k 0)] := by
  unfold nam
  rw [take_one hk, List.filter_append, List.map_append, List.filter_cons_of_pos (by simpa only [decide_eq_true_iff] using h)]; rfl
theorem nam_no {N : Nat → ByteArray} {c : Nat} {us : List Nat} {k : Nat} (hk : k < us.length) (h : ¬ us.getD k 0 < c) : nam N c (us.take (k + 1)) = nam N c (us.take k) := by
  unfold nam
  rw [take_one hk, List.filter_append, List.map_append, List.filter_cons_of_neg (by simpa only [decide_eq_true_iff] using h)]; simp
theorem nam_len (N : Nat → ByteArray) (c : Nat) (us : List Nat) : (nam N c us).length ≤ us.length := by
  rw [nam, List.length_map]; exact List.length_filter_le _ _
def stale (un : List ByteArray) (cs ss : List Nat) (c s : Nat) : List ByteArray := un ++ nam cpN c cs ++ nam sgN s ss

set_option maxRecDepth 100000 in
set_option maxHeartbeats 1600000 in
theorem staleFiles_any (sa ca ua : Option Addr) (sn cn n sc cc uc : Nat) (ss cs : List Nat) (un : List ByteArray) (lg : Bool) (c s : Nat) (w : World) (htab : Tab w)
    (hs : Row w sa sn (fun k => .int .u64 (ss.getD k 0 : Nat))) (hsl : ss.length = sn) (hsr : ∀ u ∈ ss, u < 18446744073709551616)
    (hc : Row w ca cn (fun k => .int .u64 (cs.getD k 0 : Nat))) (hcl : cs.length = cn) (hcr : ∀ u ∈ cs, u < 18446744073709551616)
    (hu : Row w ua n (fun k => .string (un.getD k ByteArray.empty))) (hul : un.length = n) (hunil : ua = none → n = 0) (hn : n ≤ 1048576) (hsn : sn ≤ 1048576) (hcn : cn ≤ 1048576) :
    Calls Tryd.prog 10 #[.agg #[.slice sa sn sc, .slice ca cn cc, .slice ua n uc, .bool lg], .int .u64 c, .int .u64 s] w fun e w' => ∃ v', e = .returned v' ∧ Strs w' w.heap.size v' (stale un cs ss c s) ∧ Below w.heap.size w w' := by
  have HSL := hid hsl
  have HSR := hid hsr
  have HCL := hid hcl
  have HCR := hid hcr
  have HUL := hid hul
  clear hsl hsr hcl hcr hul
  go_enter Tryd.func10, Tryd.ntmps10
  go_wp2_with fail
  have hbb : Below w.heap.size w (w.alloc (.cells #[.slice sa sn sc, .slice ca cn cc, .slice ua n uc, .bool lg] 34)) := (Below.refl _ _).alloc (Nat.le_refl _) _
  have b0 : (w.alloc (.cells #[.slice sa sn sc, .slice ca cn cc, .slice ua n uc, .bool lg] 34)).cell? ⟨w.heap.size, 0, none⟩ = some (.slice sa sn sc) := by rw [World.cell?_alloc_new]; rfl
  have b1 : (w.alloc (.cells #[.slice sa sn sc, .slice ca cn cc, .slice ua n uc, .bool lg] 34)).cell? ⟨w.heap.size, 1, none⟩ = some (.slice ca cn cc) := by rw [World.cell?_alloc_new]; rfl
  generalize w.alloc (.cells #[.slice sa sn sc, .slice ca cn cc, .slice ua n uc, .bool lg] 34) = wb at *
  have hs' := hs.later hbb
  have hc' := hc.later hbb
  have ht' := htab.later hbb
  refine (clone_any ua n uc un wb HUL.out (hu.later hbb) hunil hn).mono ?_
  rintro e w1 ⟨v1, rfl, hy1, hb1⟩
  have hzb := hbb.size
  obtain ⟨B, hB⟩ : ∃ B, B = wb.heap.size := ⟨_, rfl⟩
  rw [← hB] at hy1 hb1
  have hb1' : Below B wb w1 := hb1
  have c1 := cell_later (hB ▸ hb1) b1
  clear hs hc hu hunil htab
  go_wp2
  go_loopw [7, 18] (fun u i wr => ∃ k : Nat, k ≤ cn ∧ i = .int .i64 k ∧ Strs wr B u (un ++ nam cpN c (cs.take k)) ∧ Below B wb wr) (fun _ i _ => cn - (intOf i).toNat)
  case atStart => exact ⟨0, by omega, rfl, by simpa [nam] using hy1, hb1⟩
  case round =>
    clear hy1 hb1 hb1' c1
    obtain ⟨k, hk, rfl, hy, hb⟩ := hrel
    have hsz : B ≤ wr.heap.size := by have := hb.size; rw [← hB] at this; exact this
    have hln : (un ++ nam cpN c (cs.take k)).length ≤ 10000000 := by
      have := nam_len cpN c (cs.take k)
      have h2 : (cs.take k).length ≤ k := by rw [List.length_take]; omega
      rw [List.length_append, HUL.out]; omega
    by_cases hlt : k < cn
    · rcases hc' with h0 | ⟨b, off, rfl, hcc⟩
      · omega
      have hck : ∀ wx, Below B wb wx → wx.cell? ⟨b, off + k, none⟩ = some (.int .u64 (cs.getD k 0 : Nat)) := fun wx hx => cell_later (hB ▸ hx) (hcc k hlt)
      have hc1 := hck _ hb
      have hkl : k < cs.length := by rw [HCL.out]; exact hlt
      have hu64 : cs.getD k 0 < 18446744073709551616 := by
        rw [show cs.getD k 0 = cs[k] from by simp [List.getD, List.getElem?_eq_getElem hkl]]
        exact HCR.out _ (List.getElem_mem hkl)
      have HY := hid (fun h => nam_yes (N := cpN) (c := c) hkl h)
      have HNO := hid (fun h => nam_no (N := cpN) (c := c) hkl h)
      have htr := ht'.later (hB ▸ hb)
      clear hck hcc
      generalize cs.getD k 0 = u at *
      by_cases huc : u < c
      · go_wp2_with fail
        refine (checkpointName_any u hu64 _ htr).mono ?_
        rintro e w2 ⟨rfl, hb2⟩
        have hb2' : Below B wb w2 := hb.trans (hb2.mono hsz)
        have hsz2 : B ≤ w2.heap.size := Nat.le_trans hsz hb2.size
        have hy2 : Strs w2 B _ (un ++ nam cpN c (cs.take k)) := World.ownsRow.kept hy (grown_of_below hb2) (by cases (Value.ownBlock _) <;> simp)
        go_wp2_with (at_builtin; refine append_str rfl (.tmp 25) (.tmp 28) rfl B (un ++ nam cpN c (cs.take k)) _ rfl hy2 (cpN u) rfl (by omega) hsz2 ?_; intro v3 w3 hy3 hg3)
        have HY3 : Hid (Strs w3 B v3 (un ++ nam cpN c (cs.take (k + 1)))) := by
          rw [HY.out huc, ← List.append_assoc]; exact hy3
        have HB3 := hid (hb2'.grown hg3 hsz2 hy2.lt)
        clear hy3 hy2 hy hb2' hb2 hb
        go_wp2
        go_roundw
        case rel => exact ⟨k + 1, by omega, by go_num, HY3.out, HB3.out⟩
        case measure => simp [intOf]; omega
      · have HYN := hid hy
        rw [← HNO.out huc] at HYN
        go_wp2
        go_roundw
        case rel => exact ⟨k + 1, by omega, by go_num, HYN.out, hb⟩
        case measure => simp [intOf]; omega
    · obtain rfl : k = cn := by omega
      rw [List.take_of_length_le (by rw [HCL.out]; exact Nat.le_refl _)] at hy hln
      have c0 := cell_later (hB ▸ hb) b0
      clear hc' hlt
      go_wp2
      go_loopw [7, 34] (fun u i wr => ∃ j : Nat, j ≤ sn ∧ i = .int .i64 j ∧ Strs wr B u (un ++ nam cpN c cs ++ nam sgN s (ss.take j)) ∧ Below B wb wr) (fun _ i _ => sn - (intOf i).toNat)
      case atStart => exact ⟨0, by omega, rfl, by simpa [nam] using hy, hb⟩
      case round =>
        clear hy hb c0 hsz hln
        obtain ⟨j, hj, rfl, hy, hb⟩ := hrel
        have hsz : B ≤ wr.heap.size := by have := hb.size; rw [← hB] at this; exact this
        have hln : (un ++ nam cpN c cs ++ nam sgN s (ss.take j)).length ≤ 10000000 := by
          have h1 := nam_len sgN s (ss.take j)
          have h2 : (ss.take j).length ≤ j := by rw [List.length_take]; omega
          have h3 := nam_len cpN c cs
          rw [HCL.out] at h3
          rw [List.length_append, List.length_append, HUL.out]; omega
        by_cases hlt : j < sn
        · rcases hs' with h0 | ⟨b, off, rfl, hcc⟩
          · omega
          have hck : ∀ wx, Below B wb wx → wx.cell? ⟨b, off + j, none⟩ = some (.int .u64 (ss.getD j 0 : Nat)) := fun wx hx => cell_later (hB ▸ hx) (hcc j hlt)
          have hc1 := hck _ hb
          have hkl : j < ss.length := by rw [HSL.out]; exact hlt
          have hu64 : ss.getD j 0 < 18446744073709551616 := by
            rw [show ss.getD j 0 = ss[j] from by simp [List.getD, List.getElem?_eq_getElem hkl]]
            exact HSR.out _ (List.getElem_mem hkl)
          have HY := hid (fun h => nam_yes (N := sgN) (c := s) hkl h)
          have HNO := hid (fun h => nam_no (N := sgN) (c := s) hkl h)
          have htr := ht'.later (hB ▸ hb)
          clear hck hcc
          generalize ss.getD j 0 = u at *
          by_cases huc : u < s
          · go_wp2_with fail
            refine (segmentName_any u hu64 _ htr).mono ?_
            rintro e w2 ⟨rfl, hb2⟩
            have hb2' : Below B wb w2 := hb.trans (hb2.mono hsz)
            have hsz2 : B ≤ w2.heap.size := Nat.le_trans hsz hb2.size
            have hy2 : Strs w2 B _ (un ++ nam cpN c cs ++ nam sgN s (ss.take j)) := World.ownsRow.kept hy (grown_of_below hb2) (by cases (Value.ownBlock _) <;> simp)
            go_wp2_with (at_builtin; refine append_str rfl (.tmp 41) (.tmp 44) rfl B (un ++ nam cpN c cs ++ nam sgN s (ss.take j)) _ rfl hy2 (sgN u) rfl (by omega) hsz2 ?_; intro v3 w3 hy3 hg3)
            have HY3 : Hid (Strs w3 B v3 (un ++ nam cpN c cs ++ nam sgN s (ss.take (j + 1)))) := by
              rw [HY.out huc, ← List.append_assoc]; exact hy3
            have HB3 := hid (hb2'.grown hg3 hsz2 hy2.lt)
            clear hy3 hy2 hy hb2' hb2 hb
            go_wp2
            go_roundw
            case rel => exact ⟨j + 1, by omega, by go_num, HY3.out, HB3.out⟩
            case measure => simp [intOf]; omega
          · have HYN := hid hy
            rw [← HNO.out huc] at HYN
            go_wp2
            go_roundw
            case rel => exact ⟨j + 1, by omega, by go_num, HYN.out, hb⟩
            case measure => simp [intOf]; omega
        · obtain rfl : j = sn := by omega
          rw [List.take_of_length_le (by rw [HSL.out]; exact Nat.le_refl _)] at hy
          have HYF : Hid (Strs wr w.heap.size _ (stale un cs ss c s)) := Strs.lower hy (by rw [hB]; exact hzb)
          have HBF := hid (hbb.trans ((hB ▸ hb : Below wb.heap.size wb wr).mono hzb))
          clear hy hb
          go_wp2
          go_ret
          exact ⟨_, rfl, HYF.out, HBF.out⟩

theorem zzstale_any (sa ca ua : Option Addr) (sn cn n sc cc uc : Nat) (ss cs : List Nat) (un : List ByteArray) (lg : Bool) (c s : Nat) (w : World) (htab : Tab w)
    (hs : Row w sa sn (fun k => .int .u64 (ss.getD k 0 : Nat))) (hsl : ss.length = sn) (hsr : ∀ u ∈ ss, u < 18446744073709551616)
    (hc : Row w ca cn (fun k => .int .u64 (cs.getD k 0 : Nat))) (hcl : cs.length = cn) (hcr : ∀ u ∈ cs, u < 18446744073709551616)
    (hu : Row w ua n (fun k => .string (un.getD k ByteArray.empty))) (hul : un.length = n) (hunil : ua = none → n = 0) (hn : n ≤ 1048576) (hsn : sn ≤ 1048576) (hcn : cn ≤ 1048576) :
    Calls Tryd.prog 7 #[.slice sa sn sc, .slice ca cn cc, .slice ua n uc, .bool lg, .int .u64 c, .int .u64 s] w fun e w' => ∃ v', e = .returned v' ∧ Strs w' w.heap.size v' (stale un cs ss c s) ∧ Below w.heap.size w w' := by
  have H := hid (staleFiles_any sa ca ua sn cn n sc cc uc ss cs un lg c s w htab hs hsl hsr hc hcl hcr hu hul hunil hn hsn hcn)
  clear htab hs hsl hsr hc hcl hcr hu hul hunil
  go_enter Tryd.func7, Tryd.ntmps7
  go_wp2_with fail
  refine H.out.mono ?_
  rintro e w1 ⟨v1, rfl, hy, hb⟩
  go_wp2
  go_ret
  exact ⟨_, rfl, hy, hb⟩
end Go.Proofs.Qxb6003783aDoor.Stale
