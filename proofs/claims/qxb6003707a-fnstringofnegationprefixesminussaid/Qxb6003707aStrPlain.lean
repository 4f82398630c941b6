import Derived.Laws.BytesArg
namespace Go.Proofs.Qxb6003707a.Str

/-- The characters that the loop of Decimal.String writes, from the last back: 'f' rounds at most, at round 'n', 'm' the magnitude that is left, 'L' what is written already. -/
def G : Nat → Int → Int → Int → List Int → List Int
  | 0, _, _, _, L => L
  | f + 1, sc, n, m, L => if n ≤ sc ∨ 0 < m then G f sc (n + 1) (m / 10) ((48 + m % 10) :: (if n = sc ∧ 0 < n then 46 :: L else L)) else L

theorem G_stop (f : Nat) (sc n m : Int) (L : List Int) (h : ¬ (n ≤ sc ∨ 0 < m)) : G f sc n m L = L := by
  cases f with
  | zero => rfl
  | succ f => rw [G, if_neg h]
theorem G_go (f : Nat) (sc n m : Int) (L : List Int) (h : n ≤ sc ∨ 0 < m) (hn : ¬ (n = sc ∧ 0 < n)) : G (f + 1) sc n m L = G f sc (n + 1) (m / 10) ((48 + m % 10) :: L) := by
  rw [G, if_pos h, if_neg hn]
theorem G_point (f : Nat) (sc n m : Int) (L : List Int) (h : n = sc) (hn : 0 < n) : G (f + 1) sc n m L = G f sc (n + 1) (m / 10) ((48 + m % 10) :: 46 :: L) := by
  rw [G, if_pos (Or.inl (by omega)), if_pos ⟨h, hn⟩]

/-- The body of the text: what is written for the magnitude 'm' at the scale 'sc', without a sign. -/
def body (m sc : Int) : List Int := G 19 sc 0 m []

/-- The magnitude left after 'n' rounds, times 10^n, is below 10^18. -/
def Small (n : Nat) (m : Int) : Prop := m.toNat * 10 ^ n < 1000000000000000000
theorem Small.step {n : Nat} {m : Int} (h : Small n m) (hm : 0 ≤ m) : Small (n + 1) (m / 10) := by
  unfold Small at *
  have e : (m / 10).toNat = m.toNat / 10 := by omega
  rw [e, Nat.pow_succ, Nat.mul_comm (10 ^ n) 10, ← Nat.mul_assoc]
  have h1 : m.toNat / 10 * 10 ≤ m.toNat := Nat.div_mul_le_self _ _
  exact Nat.lt_of_le_of_lt (Nat.mul_le_mul_right _ h1) h
theorem Small.lt {n : Nat} {m : Int} (h : Small n m) (hm : 0 < m) : n < 18 := by
  unfold Small at h
  rcases Nat.lt_or_ge n 18 with h1 | h1
  · exact h1
  · exfalso
    have h2 : 10 ^ 18 ≤ 10 ^ n := Nat.pow_le_pow_right (by omega) h1
    have h3 : 1 * 10 ^ n ≤ m.toNat * 10 ^ n := Nat.mul_le_mul_right _ (by omega)
    omega
end Go.Proofs.Qxb6003707a.Str
