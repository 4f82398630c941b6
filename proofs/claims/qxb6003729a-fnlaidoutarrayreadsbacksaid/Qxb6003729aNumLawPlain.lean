import Derived.Test.Qxb6003729aNumAuto
namespace Go.Proofs.Qxb6003729a.Num

/-- The answer that a stop of the automaton gives. -/
def ans (r : Nat × Nat) : Option Nat := if acc r.1 then some r.2 else none

theorem ans6 (zs : List Int) (k : Nat) : ans (Fp zs 6 k) = if dig (zs.drop (esign zs k)) = 0 then none else some (esign zs k + dig (zs.drop (esign zs k))) := by
  rw [Fp6]
  cases hs : at2 zs k 43 45
  · rw [if_neg (by simp), show esign zs k = k from by rw [esign, hs]; rfl]
    split <;> rfl
  · rw [if_pos rfl, show esign zs k = k + 1 from by rw [esign, hs]; rfl, Fp7]
    split <;> rfl

theorem ans_expo (zs : List Int) (s k : Nat) (hs : acc s = true) : ans (if at2 zs k 101 69 then Fp zs 6 (k + 1) else (s, k)) = expo zs k := by
  rw [expo]
  cases he : at2 zs k 101 69
  · rw [if_neg (by simp), if_neg (by simp), ans, hs]; rfl
  · rw [if_pos rfl, if_pos rfl, ans6]

theorem ans_frac (zs : List Int) (s i : Nat) (hs : s = 2 ∨ (s = 3 ∧ (i < zs.length → isD (zs.getD i 0) = false))) : ans (Fp zs s i) = (frac zs i).bind (expo zs) := by
  rw [Fp23 zs s i hs, frac]
  have hac : acc s = true := by rcases hs with rfl | ⟨rfl, _⟩ <;> rfl
  cases hp : atC zs i 46
  · simp only [Bool.false_eq_true, if_false]; rw [ans_expo zs s i hac]; rfl
  · rw [if_pos rfl, if_pos rfl, Fp4]
    split
    · rfl
    · rw [Fp5, ans_expo zs 5 _ rfl]; rfl

theorem digit_of {zs : List Int} {i : Nat} (h : dig (zs.drop i) ≠ 0) : i < zs.length ∧ isD (zs.getD i 0) = true := by
  have hl : i < zs.length := by
    rcases Nat.lt_or_ge i zs.length with h1 | h1
    · exact h1
    · rw [List.drop_of_length_le h1] at h; simp [dig] at h
  refine ⟨hl, ?_⟩
  rw [drop_at zs i hl, dig] at h
  split at h
  · assumption
  · omega

theorem ans_whole (zs : List Int) (s i : Nat) (hs : s = 1 ∨ (s = 0 ∧ atC zs i 45 = false)) : ans (Fp zs s i) = ((whole zs i).bind (frac zs)).bind (expo zs) := by
  have hna : acc s = false := by rcases hs with rfl | ⟨rfl, _⟩ <;> rfl
  have h45 : s = 0 → i < zs.length → zs.getD i 0 ≠ 45 := by
    intro h0 hl
    rcases hs with rfl | ⟨_, h⟩
    · omega
    · rw [atC_in hl] at h; simpa only [decide_eq_false_iff_not] using h
  rw [whole]
  cases hz : atC zs i 48
  · rw [if_neg (by simp)]
    split
    · rename_i hd
      by_cases hl : i < zs.length
      · have hno := dig_zero zs i hd hl
        rcases hs with rfl | ⟨rfl, h⟩
        · rw [Fp_stop zs 1 i hl (st1_no hno)]; rfl
        · rw [Fp_stop zs 0 i hl (st0_no (h45 rfl hl) hno)]; rfl
      · rw [Fp_end zs s i hl, ans, hna]; rfl
    · rename_i hd
      obtain ⟨hl, hdg⟩ := digit_of hd
      have h48 : zs.getD i 0 ≠ 48 := by rw [atC_in hl] at hz; simpa only [decide_eq_false_iff_not] using hz
      have e : Fp zs s i = Fp zs 3 (i + dig (zs.drop i)) := by
        rw [← Fp_digits zs 3 keep3 _ i rfl, Fp_go zs 3 3 i hl (keep3 _ hdg)]
        rcases hs with rfl | ⟨rfl, h⟩
        · exact Fp_go zs 1 3 i hl (st1_dig h48 hdg)
        · exact Fp_go zs 0 3 i hl (st0_dig (h45 rfl hl) h48 hdg)
      rw [e, ans_frac zs 3 _ (Or.inr ⟨rfl, fun hl' => dig_stop zs _ i rfl hl'⟩)]; rfl
  · have hl := atC_lt hz
    have h48 : zs.getD i 0 = 48 := by rw [atC_in hl] at hz; simpa only [decide_eq_true_iff] using hz
    have e : Fp zs s i = Fp zs 2 (i + 1) := by
      rcases hs with rfl | ⟨rfl, h⟩
      · exact Fp_go zs 1 2 i hl (st1_z h48)
      · exact Fp_go zs 0 2 i hl (st0_z h48)
    rw [if_pos rfl, e, ans_frac zs 2 _ (Or.inl rfl)]; rfl

/-- ████ THE PLAIN LAW: the reader answers as the automaton does. ████ -/
theorem num_auto (zs : List Int) (i : Nat) : num zs i = ans (Fp zs 0 i) := by
  rw [num, sign]
  cases hm : atC zs i 45
  · rw [if_neg (by simp)]; exact (ans_whole zs 0 i (Or.inr ⟨rfl, hm⟩)).symm
  · have hl := atC_lt hm
    have h45 : zs.getD i 0 = 45 := by rw [atC_in hl] at hm; simpa only [decide_eq_true_iff] using hm
    rw [if_pos rfl, Fp_go zs 0 1 i hl (st0_m h45)]; exact (ans_whole zs 1 (i + 1) (Or.inl rfl)).symm
end Go.Proofs.Qxb6003729a.Num
