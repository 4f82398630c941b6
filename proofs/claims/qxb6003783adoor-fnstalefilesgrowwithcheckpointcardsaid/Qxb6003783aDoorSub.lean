import Derived.Test.Qxb6003783aDoorStale
namespace Go.Proofs.Qxb6003783aDoor.Stale
open Go.RowKit Mem Fmt
set_option linter.unusedVariables false

theorem drop_cons {α : Type} (l : List α) (k : Nat) (d : α) (h : k < l.length) : l.drop k = l.getD k d :: l.drop (k + 1) := by
  rw [List.drop_eq_getElem_cons h]
  simp [List.getD, List.getElem?_eq_getElem h]
theorem sub_skip {x y : ByteArray} {l m : List ByteArray} (h : (x :: l).Sublist (y :: m)) (hne : y ≠ x) : (x :: l).Sublist m := by
  cases h with
  | cons _ h => exact h
  | cons_cons _ h => exact absurd rfl hne

theorem bytes_ne {y x : ByteArray} (h : y ≠ x) : (y.toList == x.toList) = false := by
  simp only [beq_eq_false_iff_ne]
  intro e
  rw [ByteArray.toList_eq, ByteArray.toList_eq] at e
  exact h (ByteArray.ext (Array.ext' e))

set_option maxRecDepth 100000 in
set_option maxHeartbeats 1600000 in
theorem isSub_any (a b : Option Addr) (n m ac bc : Nat) (xs ys : List ByteArray) (w : World) (ha : Row w a n (fun k => .string (xs.getD k ByteArray.empty))) (hal : xs.length = n) (hb : Row w b m (fun k => .string (ys.getD k ByteArray.empty))) (hbl : ys.length = m)
    (hn : n ≤ 1000000000) (hm : m ≤ 1000000000) (hsub : xs.Sublist ys) :
    Calls Tryd.prog 8 #[.slice a n ac, .slice b m bc] w fun e w' => e = .returned (.bool true) ∧ Below w.heap.size w w' := by
  have HAL := hid hal
  have HBL := hid hbl
  have HS := hid hsub
  clear hal hbl hsub
  go_enter Tryd.func8, Tryd.ntmps8
  go_wp2
  go_loopw [5, 6] (fun sj sk wr => ∃ j k : Nat, j ≤ m ∧ k ≤ n ∧ sj = .int .i64 j ∧ sk = .int .i64 k ∧ Hid ((xs.drop k).Sublist (ys.drop j)) ∧ Below w.heap.size w wr) (fun _ sk _ => n - (intOf sk).toNat)
  case atStart => exact ⟨0, 0, by omega, by omega, rfl, rfl, HS.out, Below.refl _ _⟩
  case round =>
    clear HS
    obtain ⟨j, k, hj, hk, rfl, rfl, hsb, hbe⟩ := hrel
    by_cases hlt : k < n
    · rcases ha with h0 | ⟨ab, ao, rfl, hac⟩
      · omega
      have hdk := drop_cons xs k ByteArray.empty (by rw [HAL.out]; exact hlt)
      rw [hdk] at hsb
      have hck : w.cell? ⟨ab, ao + k, none⟩ = some (.string (xs.getD k ByteArray.empty)) := hac k hlt
      have HDK := hid hdk
      clear hdk hac
      generalize xs.getD k ByteArray.empty = X at *
      go_wp2
      go_loopw [5] (fun sj wr2 => ∃ i : Nat, i ≤ m ∧ sj = .int .i64 i ∧ Hid ((X :: xs.drop (k + 1)).Sublist (ys.drop i)) ∧ Below w.heap.size w wr2) (fun sj _ => m - (intOf sj).toNat)
      case atStart => exact ⟨j, hj, rfl, hsb, hbe⟩
      case round =>
        clear hsb hbe
        obtain ⟨i, hi, rfl, hsi, hbi⟩ := hrel
        have hlt2 : i < m := by
          rcases Nat.lt_or_ge i m with h | h
          · exact h
          · exfalso
            have h1 := hsi.out
            have h2 : ys.drop i = [] := List.drop_of_length_le (by rw [HBL.out]; exact h)
            rw [h2] at h1
            cases h1
        rcases hb with h0 | ⟨bb, bo, rfl, hbc⟩
        · omega
        have hci : wr.cell? ⟨bb, bo + i, none⟩ = some (.string (ys.getD i ByteArray.empty)) := cell_later hbi (hbc i hlt2)
        have hck2 := cell_later hbi hck
        have hdi := drop_cons ys i ByteArray.empty (by rw [HBL.out]; exact hlt2)
        rw [hdi] at hsi
        clear hdi hbc
        generalize ys.getD i ByteArray.empty = Y at *
        have hi1 : (i : Int) < (m : Int) := by omega
        have hi2 : (0 : Int) ≤ (i : Int) := by omega
        have hk1 : (k : Int) < (n : Int) := by omega
        have hk2 : (0 : Int) ≤ (k : Int) := by omega
        by_cases hne : Y = X
        · subst hne
          have HN : Hid ((xs.drop (k + 1)).Sublist (ys.drop (i + 1))) := List.cons_sublist_cons.mp hsi.out
          have hmi : ((i : Int) == (m : Int)) = false := by simp; omega
          clear hsi
          go_wp2
          go_quiet (fail)
          go_wp2
          exact ⟨⟨i + 1, k + 1, by omega, by omega, by go_num, by go_num, HN.out, below_drewN hbi _⟩, by simp [intOf]; omega⟩
        · have HN := hid (sub_skip hsi.out hne)
          have hcmp := bytes_ne hne
          clear hsi hne
          go_wp2
          go_quiet (fail)
          go_wp2
          exact ⟨⟨i + 1, by omega, by go_num, HN.out, below_drewN hbi _⟩, by simp [intOf]; omega⟩
    · obtain rfl : k = n := by omega
      go_wp2
      go_ret
      exact ⟨rfl, hbe⟩
end Go.Proofs.Qxb6003783aDoor.Stale
