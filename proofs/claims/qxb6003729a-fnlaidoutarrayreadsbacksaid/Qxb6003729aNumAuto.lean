import Derived.Test.Qxb6003729aNumPlain
namespace Go.Proofs.Qxb6003729a.Num

def ex (c : Int) : Bool := decide (c = 101 ∨ c = 69)
def sg (c : Int) : Bool := decide (c = 43 ∨ c = 45)
/-- The automaton of the law. -/
def step (s : Nat) (c : Int) : Int :=
  match s with
  | 0 => if c = 45 then 1 else if c = 48 then 2 else if isD c then 3 else -1
  | 1 => if c = 48 then 2 else if isD c then 3 else -1
  | 2 => if c = 46 then 4 else if ex c then 6 else -1
  | 3 => if isD c then 3 else if c = 46 then 4 else if ex c then 6 else -1
  | 4 => if isD c then 5 else -1
  | 5 => if isD c then 5 else if ex c then 6 else -1
  | 6 => if sg c then 7 else if isD c then 8 else -1
  | 7 => if isD c then 8 else -1
  | 8 => if isD c then 8 else -1
  | _ => -1
def acc (s : Nat) : Bool := s == 2 || s == 3 || s == 5 || s == 8

theorem step_range (s : Nat) (c : Int) : step s c = -1 ∨ ∃ t : Nat, step s c = t ∧ t ≤ 8 := by
  unfold step
  split <;> repeat' split
  all_goals first | exact Or.inl rfl | exact Or.inr ⟨1, rfl, by decide⟩ | exact Or.inr ⟨2, rfl, by decide⟩ | exact Or.inr ⟨3, rfl, by decide⟩ | exact Or.inr ⟨4, rfl, by decide⟩ | exact Or.inr ⟨5, rfl, by decide⟩ | exact Or.inr ⟨6, rfl, by decide⟩ | exact Or.inr ⟨7, rfl, by decide⟩ | exact Or.inr ⟨8, rfl, by decide⟩

/-- The state and the count at which the automaton stops. -/
def fin : Nat → List Int → Nat × Nat
  | s, [] => (s, 0)
  | s, c :: cs => if step s c < 0 then (s, 0) else ((fin (step s c).toNat cs).1, (fin (step s c).toNat cs).2 + 1)

/-- The same by offsets. -/
def Fp (zs : List Int) (s i : Nat) : Nat × Nat := ((fin s (zs.drop i)).1, i + (fin s (zs.drop i)).2)

theorem Fp_end (zs : List Int) (s i : Nat) (h : ¬ i < zs.length) : Fp zs s i = (s, i) := by
  unfold Fp; rw [List.drop_of_length_le (by omega)]; rfl
theorem Fp_stop (zs : List Int) (s i : Nat) (h : i < zs.length) (hs : step s (zs.getD i 0) < 0) : Fp zs s i = (s, i) := by
  unfold Fp; rw [drop_at zs i h, fin, if_pos hs]; rfl
theorem Fp_go (zs : List Int) (s t i : Nat) (h : i < zs.length) (hs : step s (zs.getD i 0) = t) : Fp zs s i = Fp zs t (i + 1) := by
  unfold Fp; rw [drop_at zs i h, fin, if_neg (by omega), hs, Int.toNat_natCast]
  simp only [Prod.mk.injEq, true_and]; omega

theorem isD_iff (c : Int) : isD c = true ↔ 48 ≤ c ∧ c ≤ 57 := by simp [isD]
theorem isD_no (c : Int) : isD c = false ↔ ¬ (48 ≤ c ∧ c ≤ 57) := by rw [← isD_iff]; simp

/-- Behind the digits no digit stands. -/
theorem dig_stop (zs : List Int) : ∀ (d i : Nat), dig (zs.drop i) = d → i + d < zs.length → isD (zs.getD (i + d) 0) = false
  | 0, i, h, hl => by
    rw [drop_at zs i (by omega), dig] at h
    split at h
    · omega
    · rename_i hh; simpa only [Bool.not_eq_true, Nat.add_zero] using hh
  | d + 1, i, h, hl => by
    rw [drop_at zs i (by omega), dig] at h
    split at h
    · have := dig_stop zs d (i + 1) (by omega) (by omega)
      rw [show i + (d + 1) = i + 1 + d from by omega]; exact this
    · omega

/-- A state that digits keep is as it was behind them. -/
theorem Fp_digits (zs : List Int) (s : Nat) (hs : ∀ c, isD c = true → step s c = s) : ∀ (d i : Nat), dig (zs.drop i) = d → Fp zs s i = Fp zs s (i + d)
  | 0, i, _ => rfl
  | d + 1, i, h => by
    have hl : i < zs.length := by
      rcases Nat.lt_or_ge i zs.length with h1 | h1
      · exact h1
      · rw [List.drop_of_length_le h1] at h; simp [dig] at h
    rw [drop_at zs i hl, dig] at h
    split at h
    · rw [Fp_go zs s s i hl (hs _ ‹_›), Fp_digits zs s hs d (i + 1) (by omega), show i + (d + 1) = i + 1 + d from by omega]
    · omega

/-- A state that a digit leads into one that digits keep. -/
theorem Fp_first (zs : List Int) (s t : Nat) (ht : ∀ c, isD c = true → step t c = t) (hs : ∀ c, isD c = true → step s c = t) (i : Nat) (h : dig (zs.drop i) ≠ 0) : Fp zs s i = Fp zs t i := by
  have hl : i < zs.length := by
    rcases Nat.lt_or_ge i zs.length with h1 | h1
    · exact h1
    · rw [List.drop_of_length_le h1] at h; simp [dig] at h
  rw [drop_at zs i hl, dig] at h
  split at h
  · rw [Fp_go zs s t i hl (hs _ ‹_›), Fp_go zs t t i hl (ht _ ‹_›)]
  · omega

theorem dig_zero (zs : List Int) (i : Nat) (h : dig (zs.drop i) = 0) (hl : i < zs.length) : isD (zs.getD i 0) = false := by
  have := dig_stop zs 0 i h (by omega); simpa using this

theorem keep8 (c : Int) (h : isD c = true) : step 8 c = 8 := by simp [step, h]
theorem keep5 (c : Int) (h : isD c = true) : step 5 c = 5 := by simp [step, h]
theorem keep3 (c : Int) (h : isD c = true) : step 3 c = 3 := by simp [step, h]

theorem st8_no {c : Int} (h : isD c = false) : step 8 c < 0 := by simp [step, h]
theorem st7_no {c : Int} (h : isD c = false) : step 7 c < 0 := by simp [step, h]
theorem st7_yes (c : Int) (h : isD c = true) : step 7 c = 8 := by simp [step, h]
theorem st6_sg {c : Int} (h : sg c = true) : step 6 c = 7 := by simp [step, h]
theorem st6_dig {c : Int} (h : sg c = false) (h2 : isD c = true) : step 6 c = 8 := by simp [step, h, h2]
theorem st6_no {c : Int} (h : sg c = false) (h2 : isD c = false) : step 6 c < 0 := by simp [step, h, h2]
theorem st5_ex {c : Int} (h : isD c = false) (h2 : ex c = true) : step 5 c = 6 := by simp [step, h, h2]
theorem st5_no {c : Int} (h : isD c = false) (h2 : ex c = false) : step 5 c < 0 := by simp [step, h, h2]
theorem st4_yes (c : Int) (h : isD c = true) : step 4 c = 5 := by simp [step, h]
theorem st4_no {c : Int} (h : isD c = false) : step 4 c < 0 := by simp [step, h]
theorem st3_pt {c : Int} (h : c = 46) : step 3 c = 4 := by subst h; rfl
theorem st3_ex {c : Int} (h : isD c = false) (h1 : c ≠ 46) (h2 : ex c = true) : step 3 c = 6 := by simp [step, h, h1, h2]
theorem st3_no {c : Int} (h : isD c = false) (h1 : c ≠ 46) (h2 : ex c = false) : step 3 c < 0 := by simp [step, h, h1, h2]
theorem st2_pt {c : Int} (h : c = 46) : step 2 c = 4 := by subst h; rfl
theorem st2_ex {c : Int} (h1 : c ≠ 46) (h2 : ex c = true) : step 2 c = 6 := by simp [step, h1, h2]
theorem st2_no {c : Int} (h1 : c ≠ 46) (h2 : ex c = false) : step 2 c < 0 := by simp [step, h1, h2]
theorem st1_z {c : Int} (h : c = 48) : step 1 c = 2 := by subst h; rfl
theorem st1_dig {c : Int} (h : c ≠ 48) (h2 : isD c = true) : step 1 c = 3 := by simp [step, h, h2]
theorem st1_no {c : Int} (h2 : isD c = false) : step 1 c < 0 := by
  have h : c ≠ 48 := by rintro rfl; simp [isD] at h2
  simp [step, h, h2]
theorem st0_m {c : Int} (h : c = 45) : step 0 c = 1 := by subst h; rfl
theorem st0_z {c : Int} (h : c = 48) : step 0 c = 2 := by subst h; rfl
theorem st0_dig {c : Int} (h : c ≠ 45) (h1 : c ≠ 48) (h2 : isD c = true) : step 0 c = 3 := by simp [step, h, h1, h2]
theorem st0_no {c : Int} (h : c ≠ 45) (h2 : isD c = false) : step 0 c < 0 := by
  have h1 : c ≠ 48 := by rintro rfl; simp [isD] at h2
  simp [step, h, h1, h2]
theorem sg_at2 (zs : List Int) (i : Nat) (hl : i < zs.length) : at2 zs i 43 45 = sg (zs.getD i 0) := by
  rw [at2, atC_in hl, atC_in hl, sg]; simp
theorem ex_at2 (zs : List Int) (i : Nat) (hl : i < zs.length) : at2 zs i 101 69 = ex (zs.getD i 0) := by
  rw [at2, atC_in hl, atC_in hl, ex]; simp
theorem at2_end {zs : List Int} {i : Nat} {c d : Int} (h : ¬ i < zs.length) : at2 zs i c d = false := by
  rw [at2, atC_end h, atC_end h]; rfl

theorem Fp8 (zs : List Int) (i : Nat) : Fp zs 8 i = (8, i + dig (zs.drop i)) := by
  rw [Fp_digits zs 8 keep8 _ i rfl]
  by_cases hl : i + dig (zs.drop i) < zs.length
  · exact Fp_stop zs 8 _ hl (st8_no (dig_stop zs _ i rfl hl))
  · exact Fp_end zs 8 _ hl
theorem Fp7 (zs : List Int) (i : Nat) : Fp zs 7 i = if dig (zs.drop i) = 0 then (7, i) else (8, i + dig (zs.drop i)) := by
  split
  · by_cases hl : i < zs.length
    · exact Fp_stop zs 7 _ hl (st7_no (dig_zero zs i ‹_› hl))
    · exact Fp_end zs 7 _ hl
  · rw [Fp_first zs 7 8 keep8 st7_yes i ‹_›, Fp8]
theorem Fp6 (zs : List Int) (i : Nat) : Fp zs 6 i = if at2 zs i 43 45 then Fp zs 7 (i + 1) else if dig (zs.drop i) = 0 then (6, i) else (8, i + dig (zs.drop i)) := by
  by_cases hl : i < zs.length
  · rw [sg_at2 zs i hl]
    cases hs : sg (zs.getD i 0)
    · rw [if_neg (by simp)]
      split
      · exact Fp_stop zs 6 i hl (st6_no hs (dig_zero zs i ‹_› hl))
      · rename_i hd
        have hdg : isD (zs.getD i 0) = true := by
          rw [drop_at zs i hl, dig] at hd
          split at hd
          · assumption
          · omega
        rw [Fp_go zs 6 8 i hl (st6_dig hs hdg), ← Fp_go zs 8 8 i hl (keep8 _ hdg), Fp8]
    · rw [if_pos rfl, Fp_go zs 6 7 i hl (st6_sg hs)]
  · rw [Fp_end zs 6 i hl, at2_end hl, if_neg (by simp), if_pos]
    rw [List.drop_of_length_le (by omega)]; rfl
theorem Fp5 (zs : List Int) (i : Nat) : Fp zs 5 i = if at2 zs (i + dig (zs.drop i)) 101 69 then Fp zs 6 (i + dig (zs.drop i) + 1) else (5, i + dig (zs.drop i)) := by
  rw [Fp_digits zs 5 keep5 _ i rfl]
  by_cases hl : i + dig (zs.drop i) < zs.length
  · have hnd := dig_stop zs _ i rfl hl
    rw [ex_at2 zs _ hl]
    cases he : ex (zs.getD (i + dig (zs.drop i)) 0)
    · rw [if_neg (by simp)]; exact Fp_stop zs 5 _ hl (st5_no hnd he)
    · rw [if_pos rfl]; exact Fp_go zs 5 6 _ hl (st5_ex hnd he)
  · rw [at2_end hl, if_neg (by simp)]; exact Fp_end zs 5 _ hl
theorem Fp4 (zs : List Int) (i : Nat) : Fp zs 4 i = if dig (zs.drop i) = 0 then (4, i) else Fp zs 5 i := by
  split
  · by_cases hl : i < zs.length
    · exact Fp_stop zs 4 _ hl (st4_no (dig_zero zs i ‹_› hl))
    · exact Fp_end zs 4 _ hl
  · exact Fp_first zs 4 5 keep5 st4_yes i ‹_›
/-- From a whole part that has come to its end (state 2, or state 3 at no digit). -/
theorem Fp23 (zs : List Int) (s i : Nat) (hs : s = 2 ∨ (s = 3 ∧ (i < zs.length → isD (zs.getD i 0) = false))) :
    Fp zs s i = if atC zs i 46 then Fp zs 4 (i + 1) else if at2 zs i 101 69 then Fp zs 6 (i + 1) else (s, i) := by
  by_cases hl : i < zs.length
  · rw [atC_in hl, ex_at2 zs i hl]
    by_cases hp : zs.getD i 0 = 46
    · rw [if_pos (by simpa using hp)]
      rcases hs with rfl | ⟨rfl, hd⟩
      · exact Fp_go zs 2 4 i hl (st2_pt hp)
      · exact Fp_go zs 3 4 i hl (st3_pt hp)
    · rw [if_neg (by simpa using hp)]
      cases he : ex (zs.getD i 0)
      · rw [if_neg (by simp)]
        rcases hs with rfl | ⟨rfl, hd⟩
        · exact Fp_stop zs 2 i hl (st2_no hp he)
        · exact Fp_stop zs 3 i hl (st3_no (hd hl) hp he)
      · rw [if_pos rfl]
        rcases hs with rfl | ⟨rfl, hd⟩
        · exact Fp_go zs 2 6 i hl (st2_ex hp he)
        · exact Fp_go zs 3 6 i hl (st3_ex (hd hl) hp he)
  · rw [atC_end hl, at2_end hl, if_neg (by simp), if_neg (by simp)]; exact Fp_end zs s i hl
end Go.Proofs.Qxb6003729a.Num
