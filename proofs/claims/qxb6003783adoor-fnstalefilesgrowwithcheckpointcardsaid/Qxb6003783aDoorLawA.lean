import Derived.Test.Qxb6003783aDoorDecB
namespace Go.Proofs.Qxb6003783aDoor.Stale
open Go.RowKit Mem Fmt
set_option linter.unusedVariables false

set_option maxRecDepth 100000 in
set_option maxHeartbeats 1600000 in
theorem zzBytes_any (a0 a1 a2 : Option Addr) (n0 n1 n2 p0 p1 p2 : Nat) (un : List ByteArray) (lg : Bool) (c1 s1 c2 s2 : Int) (w : World) (m0 : n0 ≤ 9223372036854775807) (m1 : n1 ≤ 9223372036854775807) (m2 : n2 ≤ 9223372036854775807)
    (hu : Row w a2 n2 (fun k => .string (un.getD k ByteArray.empty))) :
    Calls Tryd.prog 4 #[.slice a0 n0 p0, .slice a1 n1 p1, .slice a2 n2 p2, .bool lg, .int .u64 c1, .int .u64 s1, .int .u64 c2, .int .u64 s2] w fun e w' => RetB e (fun x => x = true → n0 ≤ 1048576 ∧ n1 ≤ 1048576 ∧ n2 ≤ 1048576 ∧ ∀ k, k < n2 → (un.getD k ByteArray.empty).size ≤ 1048576) ∧ w' = w := by
  by_cases h1 : 1048576 < n0
  · go_enter Tryd.func4, Tryd.ntmps4
    go_wp2
    go_ret
    exact ⟨RetB.mk false (fun h => by cases h), rfl⟩
  by_cases h2 : 1048576 < n1
  · go_enter Tryd.func4, Tryd.ntmps4
    go_wp2
    go_ret
    exact ⟨RetB.mk false (fun h => by cases h), rfl⟩
  by_cases h3 : 1048576 < n0 + n1
  · go_enter Tryd.func4, Tryd.ntmps4
    go_wp2
    go_ret
    exact ⟨RetB.mk false (fun h => by cases h), rfl⟩
  by_cases h4 : 1048576 < n2
  · go_enter Tryd.func4, Tryd.ntmps4
    go_wp2
    go_ret
    exact ⟨RetB.mk false (fun h => by cases h), rfl⟩
  by_cases h5 : 1048576 < n0 + n1 + n2
  · go_enter Tryd.func4, Tryd.ntmps4
    go_wp2
    go_ret
    exact ⟨RetB.mk false (fun h => by cases h), rfl⟩
  · go_enter Tryd.func4, Tryd.ntmps4
    go_wp2
    go_loopw [17, 18] (fun st si wr => ∃ t k : Nat, k ≤ n2 ∧ t ≤ 1048576 ∧ st = .int .i64 t ∧ si = .int .i64 k ∧ Hid (∀ i, i < k → (un.getD i ByteArray.empty).size ≤ 1048576) ∧ wr = w) (fun _ si _ => n2 - (intOf si).toNat)
    case atStart => exact ⟨n0 + n1 + n2, 0, by omega, by omega, by go_num, rfl, fun i hi => by omega, rfl⟩
    case round =>
      obtain ⟨t, k, hk, ht, rfl, rfl, hall, rfl⟩ := hrel
      by_cases hlt : k < n2
      · rcases hu with h0 | ⟨b, off, rfl, hc⟩
        · omega
        have hck : wr.cell? ⟨b, off + k, none⟩ = some (.string (un.getD k ByteArray.empty)) := hc k hlt
        have HA : Hid ((un.getD k ByteArray.empty).size ≤ 1048576 → ∀ i, i < k + 1 → (un.getD i ByteArray.empty).size ≤ 1048576) := fun h i hi => by
          rcases Nat.lt_succ_iff_lt_or_eq.mp hi with h1 | rfl
          · exact hall.out i h1
          · exact h
        clear hc hall
        generalize un.getD k ByteArray.empty = S at *
        by_cases hs : 1048576 < S.size
        · go_wp2
          go_ret
          exact ⟨RetB.mk false (fun h => by cases h), rfl⟩
        have HA2 := hid (HA.out (by omega))
        by_cases hs2 : 1048576 < t + S.size
        · go_wp2
          go_ret
          exact ⟨RetB.mk false (fun h => by cases h), rfl⟩
        · go_wp2
          go_roundw
          case rel => exact ⟨t + S.size, k + 1, by omega, by omega, by go_num, by go_num, HA2.out, trivial⟩
          case measure => simp [intOf]; omega
      · obtain rfl : k = n2 := by omega
        go_wp2
        go_ret
        exact ⟨RetB.mk true (fun _ => ⟨by omega, by omega, by omega, hall.out⟩), rfl⟩

/-- What is left of us behind ci, held against c. -/
def low (c : Nat) (us : List Nat) : List Nat := us.filter (fun u => decide (u < c))
theorem low_skip {c ci : Nat} {us : List Nat} (h : ci < us.length) (hge : c ≤ us.getD ci 0) : low c (us.drop (ci + 1)) = low c (us.drop ci) := by
  rw [drop_cons us ci 0 h]
  unfold low
  rw [List.filter_cons_of_neg (by simp only [decide_eq_true_iff]; omega)]
theorem low_take {c ci : Nat} {us : List Nat} (h : ci < us.length) (hlt : us.getD ci 0 < c) : low c (us.drop ci) = us.getD ci 0 :: low c (us.drop (ci + 1)) := by
  rw [drop_cons us ci 0 h]
  unfold low
  rw [List.filter_cons_of_pos (by simp only [decide_eq_true_iff]; omega)]
theorem low_lt {c : Nat} {us : List Nat} {p : Nat} (h : p < (low c us).length) : (low c us).getD p 0 < c := by
  have hm : (low c us).getD p 0 ∈ low c us := by
    rw [show (low c us).getD p 0 = (low c us)[p] from by simp [List.getD, List.getElem?_eq_getElem h]]
    exact List.getElem_mem h
  have := (List.mem_filter.mp hm).2
  simpa using this
theorem low_sub {c c' : Nat} (h : c ≤ c') (us : List Nat) : (low c us).Sublist (low c' us) := by
  induction us with
  | nil => exact List.Sublist.refl _
  | cons u us ih =>
    unfold low at *
    by_cases h1 : u < c
    · rw [List.filter_cons_of_pos (by simpa using h1), List.filter_cons_of_pos (by simp; omega)]; exact ih.cons_cons _
    · rw [List.filter_cons_of_neg (by simpa using h1)]
      by_cases h2 : u < c'
      · rw [List.filter_cons_of_pos (by simpa using h2)]; exact ih.cons _
      · rw [List.filter_cons_of_neg (by simpa using h2)]; exact ih
theorem stale_sub {un : List ByteArray} {cs ss : List Nat} {c c' s s' : Nat} (h : c ≤ c') (h' : s ≤ s') : (stale un cs ss c s).Sublist (stale un cs ss c' s') :=
  ((List.Sublist.refl un).append ((low_sub h cs).map cpN)).append ((low_sub h' ss).map sgN)
theorem stale_len (un : List ByteArray) (cs ss : List Nat) (c s : Nat) : (stale un cs ss c s).length = un.length + (low c cs).length + (low s ss).length := by
  simp [stale, nam, low]; omega
theorem stale_un {un : List ByteArray} {cs ss : List Nat} {c s k : Nat} (h : k < un.length) : (stale un cs ss c s).getD k ByteArray.empty = un.getD k ByteArray.empty := by
  simp [stale, List.getD, List.getElem?_append, h]
theorem stale_cp {un : List ByteArray} {cs ss : List Nat} {c s p : Nat} (h : p < (low c cs).length) : (stale un cs ss c s).getD (un.length + p) ByteArray.empty = cpN ((low c cs).getD p 0) := by
  have h' : p < (nam cpN c cs).length := by simpa [nam, low] using h
  unfold stale
  rw [List.append_assoc]
  simp only [List.getD]
  rw [List.getElem?_append_right (by omega), Nat.add_sub_cancel_left, List.getElem?_append_left h']
  show ((low c cs).map cpN)[p]?.getD _ = _
  simp [List.getElem?_eq_getElem h]
theorem stale_sg {un : List ByteArray} {cs ss : List Nat} {c s p : Nat} (h : p < (low s ss).length) : (stale un cs ss c s).getD (un.length + (low c cs).length + p) ByteArray.empty = sgN ((low s ss).getD p 0) := by
  have e : (un ++ nam cpN c cs).length = un.length + (low c cs).length := by simp [nam, low]
  unfold stale
  simp only [List.getD]
  rw [List.getElem?_append_right (by omega), ← e, Nat.add_sub_cancel_left]
  show ((low s ss).map sgN)[p]?.getD _ = _
  simp [List.getElem?_eq_getElem h]
end Go.Proofs.Qxb6003783aDoor.Stale
