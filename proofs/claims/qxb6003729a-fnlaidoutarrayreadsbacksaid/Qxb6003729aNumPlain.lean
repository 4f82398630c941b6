namespace Go.Proofs.Qxb6003729a.Num

def isD (c : Int) : Bool := decide (48 ≤ c ∧ c ≤ 57)
/-- How many digits stand ahead. -/
def dig : List Int → Nat
  | [] => 0
  | c :: cs => if isD c then dig cs + 1 else 0
theorem dig_nil : dig [] = 0 := rfl
theorem dig_yes {c : Int} {cs : List Int} (h1 : 48 ≤ c) (h2 : c ≤ 57) : dig (c :: cs) = dig cs + 1 := by rw [dig, if_pos (by simp [isD, h1, h2])]
theorem dig_no {c : Int} {cs : List Int} (h : ¬ (48 ≤ c ∧ c ≤ 57)) : dig (c :: cs) = 0 := by rw [dig, if_neg (by simpa [isD] using h)]
theorem dig_le : ∀ l : List Int, dig l ≤ l.length
  | [] => by simp [dig]
  | c :: cs => by rw [dig]; split <;> simp; have := dig_le cs; omega
theorem drop_at (zs : List Int) (k : Nat) (h : k < zs.length) : zs.drop k = zs.getD k 0 :: zs.drop (k + 1) := by
  rw [List.drop_eq_getElem_cons h]; simp [List.getD, List.getElem?_eq_getElem h]
end Go.Proofs.Qxb6003729a.Num
namespace Go.Proofs.Qxb6003729a.Num
/-- The byte c stands at offset i. -/
def atC (zs : List Int) (i : Nat) (c : Int) : Bool := decide (i < zs.length) && decide (zs.getD i 0 = c)
theorem atC_end {zs : List Int} {i : Nat} {c : Int} (h : ¬ i < zs.length) : atC zs i c = false := by simp [atC, h]
theorem atC_in {zs : List Int} {i : Nat} {c : Int} (h : i < zs.length) : atC zs i c = decide (zs.getD i 0 = c) := by simp [atC, h]
theorem atC_lt {zs : List Int} {i : Nat} {c : Int} (h : atC zs i c = true) : i < zs.length := by
  simp [atC] at h; exact h.1
def at2 (zs : List Int) (i : Nat) (c d : Int) : Bool := atC zs i c || atC zs i d
theorem at2_lt {zs : List Int} {i : Nat} {c d : Int} (h : at2 zs i c d = true) : i < zs.length := by
  simp only [at2, Bool.or_eq_true] at h; rcases h with h | h <;> exact atC_lt h

/-- Behind a sign. -/
def sign (zs : List Int) (i : Nat) : Nat := if atC zs i 45 then i + 1 else i
/-- Behind the whole part. -/
def whole (zs : List Int) (i : Nat) : Option Nat := if atC zs i 48 then some (i + 1) else if dig (zs.drop i) = 0 then none else some (i + dig (zs.drop i))
/-- Behind a fraction. -/
def frac (zs : List Int) (i : Nat) : Option Nat := if atC zs i 46 then (if dig (zs.drop (i + 1)) = 0 then none else some (i + 1 + dig (zs.drop (i + 1)))) else some i
/-- Behind the sign of an exponent. -/
def esign (zs : List Int) (i : Nat) : Nat := if at2 zs i 43 45 then i + 1 else i
/-- Behind an exponent. -/
def expo (zs : List Int) (i : Nat) : Option Nat := if at2 zs i 101 69 then (if dig (zs.drop (esign zs (i + 1))) = 0 then none else some (esign zs (i + 1) + dig (zs.drop (esign zs (i + 1))))) else some i
/-- Where number stands behind a number that begins at i. -/
def num (zs : List Int) (i : Nat) : Option Nat := ((whole zs (sign zs i)).bind (frac zs)).bind (expo zs)
end Go.Proofs.Qxb6003729a.Num
