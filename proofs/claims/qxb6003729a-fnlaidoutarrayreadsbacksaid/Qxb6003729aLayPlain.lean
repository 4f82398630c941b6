import Derived.Test.Qxb6003729aNumPlain
import Derived.Test.Qxb6003729aNestPlain
namespace Go.Proofs.Qxb6003729a.Lay
open Num Nest

/-- The digits of u, ahead of L. -/
def D : Nat → Nat → List Int → List Int
  | 0, _, L => L
  | f + 1, u, L => if u = 0 then L else D f (u / 10) ((48 + (u % 10 : Nat)) :: L)
theorem D_zero (f : Nat) (L : List Int) : D f 0 L = L := by cases f <;> simp [D]
theorem D_step (f u : Nat) (L : List Int) (h : u ≠ 0) : D (f + 1) u L = D f (u / 10) ((48 + (u % 10 : Nat)) :: L) := by rw [D, if_neg h]

theorem D_form : ∀ (f u : Nat) (L : List Int), u < 10 ^ f → ∃ ds : List Int, D f u L = ds ++ L ∧ (∀ c ∈ ds, isD c = true) ∧ ds.length ≤ f ∧ (u = 0 → ds = []) ∧ (u ≠ 0 → ∃ c cs, ds = c :: cs ∧ c ≠ 48)
  | 0, u, L, h => ⟨[], by simp [D], by simp, by simp, fun _ => rfl, fun hu => by simp at h; omega⟩
  | f + 1, u, L, h => by
    by_cases hu : u = 0
    · subst hu; exact ⟨[], by simp [D], by simp, by simp, fun _ => rfl, fun h => absurd rfl h⟩
    · obtain ⟨ds, h1, h2, h3, h4, h5⟩ := D_form f (u / 10) ((48 + (u % 10 : Nat)) :: L) (by rw [Nat.pow_succ] at h; omega)
      refine ⟨ds ++ [48 + ((u % 10 : Nat) : Int)], ?_, ?_, ?_, fun h => absurd h hu, fun _ => ?_⟩
      · rw [D_step f u L hu, h1]; simp
      · intro c hc
        rw [List.mem_append] at hc
        rcases hc with hc | hc
        · exact h2 c hc
        · simp at hc; subst hc; simp [isD]; omega
      · simp; omega
      · by_cases hq : u / 10 = 0
        · rw [h4 hq]; exact ⟨_, [], rfl, by omega⟩
        · obtain ⟨c, cs, e, hc⟩ := h5 hq
          exact ⟨c, cs ++ [48 + ((u % 10 : Nat) : Int)], by rw [e]; rfl, hc⟩

theorem zpos {z : Int} (h0 : ¬ z = 0) (h1 : ¬ z < 0) : 0 < z := by omega
/-- The decimal text of z. -/
def dec (z : Int) : List Int := if z = 0 then [48] else (if z < 0 then [45] else []) ++ D 20 z.natAbs []
theorem dec_zero : dec 0 = [48] := rfl
theorem dec_pos {z : Int} (h : 0 < z) : dec z = D 20 z.natAbs [] := by rw [dec, if_neg (by omega), if_neg (by omega)]; rfl
theorem dec_neg {z : Int} (h : z < 0) : dec z = 45 :: D 20 z.natAbs [] := by rw [dec, if_neg (by omega), if_pos h]; rfl

/-- The bytes that a JSON number may stop at, here. -/
def Ends (r : List Int) : Prop := ∃ c cs, r = c :: cs ∧ (c = 44 ∨ c = 10 ∨ c = 93)

theorem atC_cons {zs : List Int} {i : Nat} {x : Int} {l : List Int} (h : zs.drop i = x :: l) (c : Int) : atC zs i c = decide (x = c) := by
  have hl : i < zs.length := by
    rcases Nat.lt_or_ge i zs.length with h1 | h1
    · exact h1
    · rw [List.drop_of_length_le h1] at h; cases h
  rw [atC_in hl]
  rw [drop_at zs i hl] at h
  injection h with h _
  rw [h]
theorem drop_succ {zs : List Int} {i : Nat} {x : Int} {l : List Int} (h : zs.drop i = x :: l) : zs.drop (i + 1) = l := by
  rw [← List.drop_drop, h]; rfl
theorem drop_add {zs : List Int} {i : Nat} {a b : List Int} (h : zs.drop i = a ++ b) : zs.drop (i + a.length) = b := by
  rw [← List.drop_drop, h]; simp

theorem dig_all : ∀ (ds r : List Int), (∀ c ∈ ds, isD c = true) → Ends r → dig (ds ++ r) = ds.length
  | [], r, _, ⟨c, cs, e, h⟩ => by
    rw [e, List.nil_append]
    exact dig_no (by omega)
  | d :: ds, r, h, hr => by
    have hd := h d (by simp)
    rw [isD] at hd
    have hd' : 48 ≤ d ∧ d ≤ 57 := by simpa using hd
    rw [List.cons_append, dig_yes hd'.1 hd'.2, dig_all ds r (fun c hc => h c (by simp [hc])) hr]; rfl

theorem num_tail {zs : List Int} {j : Nat} {r : List Int} (h : zs.drop j = r) (hr : Ends r) : (frac zs j).bind (expo zs) = some j := by
  obtain ⟨c, cs, e, hc⟩ := hr
  rw [e] at h
  have h1 : atC zs j 46 = false := by rw [atC_cons h]; simp; omega
  have h2 : at2 zs j 101 69 = false := by rw [at2, atC_cons h, atC_cons h]; simp; omega
  rw [frac, h1, if_neg (by simp)]
  show expo zs j = some j
  rw [expo, h2, if_neg (by simp)]

theorem num_whole {zs : List Int} {j : Nat} {ds r : List Int} (h : zs.drop j = ds ++ r) (hr : Ends r) (hd : ∀ c ∈ ds, isD c = true) (hh : ds = [48] ∨ ∃ c cs, ds = c :: cs ∧ c ≠ 48) : whole zs j = some (j + ds.length) := by
  rcases hh with rfl | ⟨c, cs, rfl, hc⟩
  · have h1 : atC zs j 48 = true := by rw [atC_cons h]; rfl
    rw [whole, h1]; rfl
  · have h1 : atC zs j 48 = false := by rw [atC_cons h]; simpa using hc
    have h2 : dig (zs.drop j) = (c :: cs).length := by rw [h]; exact dig_all _ r hd hr
    rw [whole, h1, if_neg (by simp), h2, if_neg (by simp)]

theorem num_dec {zs : List Int} {i : Nat} {z : Int} {r : List Int} (h : zs.drop i = dec z ++ r) (hr : Ends r) (hz : z.natAbs < 10 ^ 20) : num zs i = some (i + (dec z).length) := by
  rw [num]
  by_cases h0 : z = 0
  · subst h0
    rw [dec_zero] at h ⊢
    have hs : sign zs i = i := by rw [sign, show atC zs i 45 = false from by rw [atC_cons h]; rfl]; rfl
    rw [hs, num_whole h hr (by simp [isD]) (Or.inl rfl)]
    exact num_tail (drop_add h) hr
  · obtain ⟨ds, e1, e2, e3, _, e5⟩ := D_form 20 z.natAbs [] hz
    rw [List.append_nil] at e1
    have hne := e5 (by omega)
    by_cases hneg : z < 0
    · rw [dec_neg hneg, e1, List.cons_append] at h
      have hs : sign zs i = i + 1 := by rw [sign, show atC zs i 45 = true from by rw [atC_cons h]; rfl]; rfl
      have h2 := drop_succ h
      rw [hs, num_whole h2 hr e2 (Or.inr hne)]
      rw [dec_neg hneg, e1, List.length_cons, show i + (ds.length + 1) = i + 1 + ds.length from by omega]
      exact num_tail (drop_add h2) hr
    · have hzp : 0 < z := zpos h0 hneg
      rw [dec_pos hzp, e1] at h
      have hs : sign zs i = i := by
        obtain ⟨c, cs, e, hc⟩ := hne
        rw [e, List.cons_append] at h
        have hcd := e2 c (by rw [e]; simp)
        rw [isD] at hcd
        have hcd' : 48 ≤ c ∧ c ≤ 57 := by simpa using hcd
        rw [sign, show atC zs i 45 = false from by rw [atC_cons h]; simp; omega]; rfl
      rw [hs, num_whole h hr e2 (Or.inr hne), dec_pos hzp, e1]
      exact num_tail (drop_add h) hr
theorem dec_len (z : Int) (hz : z.natAbs < 10 ^ 20) : (dec z).length ≤ 21 ∧ 1 ≤ (dec z).length := by
  by_cases h0 : z = 0
  · subst h0; simp [dec]
  · obtain ⟨ds, e1, _, e3, _, e5⟩ := D_form 20 z.natAbs [] hz
    rw [List.append_nil] at e1
    obtain ⟨c, cs, e, _⟩ := e5 (by omega)
    have h1 : 1 ≤ ds.length := by rw [e]; simp
    by_cases hneg : z < 0
    · rw [dec_neg hneg, e1]; simp; omega
    · have hzp : 0 < z := zpos h0 hneg
      rw [dec_pos hzp, e1]; omega
/-- A byte that nests nothing. -/
def flat (c : Int) : Prop := c ≠ 34 ∧ c ≠ 91 ∧ c ≠ 123 ∧ c ≠ 93 ∧ c ≠ 125
theorem dec_flat (z : Int) (hz : z.natAbs < 10 ^ 20) : ∀ c ∈ dec z, flat c := by
  intro c hc
  by_cases h0 : z = 0
  · subst h0; simp [dec] at hc; subst hc; unfold flat; omega
  · obtain ⟨ds, e1, e2, _, _, _⟩ := D_form 20 z.natAbs [] hz
    rw [List.append_nil] at e1
    have key : ∀ c ∈ ds, flat c := by
      intro c hc; have := e2 c hc; rw [isD] at this; have h : 48 ≤ c ∧ c ≤ 57 := by simpa using this
      unfold flat; omega
    by_cases hneg : z < 0
    · rw [dec_neg hneg, e1] at hc
      rcases List.mem_cons.mp hc with rfl | hc
      · unfold flat; omega
      · exact key c hc
    · have hzp : 0 < z := zpos h0 hneg
      rw [dec_pos hzp, e1] at hc; exact key c hc
theorem go_flat : ∀ (l r : List Int) (Dp d : Int), (∀ c ∈ l, flat c) → go (l ++ r) 0 Dp d = go r 0 Dp d
  | [], _, _, _, _ => rfl
  | c :: cs, r, Dp, d, h => by
    obtain ⟨h1, h2, h3, h4, h5⟩ := h c (by simp)
    rw [List.cons_append, go_out, if_neg h1, if_neg h2, if_neg h3, if_neg h4, if_neg h5]
    exact go_flat cs r Dp d (fun c hc => h c (by simp [hc]))

/-- The new line ahead of member k, indented to depth d. -/
def nl (k d : Nat) : List Int := (if 0 < k then [44] else []) ++ (10 :: List.replicate (2 * d) 32)
theorem nl_len (k d : Nat) : (nl k d).length ≤ 2 + 2 * d := by unfold nl; split <;> simp <;> omega
theorem nl_flat (k d : Nat) : ∀ c ∈ nl k d, flat c := by
  intro c hc
  unfold nl at hc
  rw [List.mem_append, List.mem_cons, List.mem_replicate] at hc
  rcases hc with hc | rfl | ⟨_, rfl⟩
  · split at hc
    · simp at hc; subst hc; unfold flat; omega
    · simp at hc
  · unfold flat; omega
  · unfold flat; omega

/-- The members from k on. -/
def mem (d : Nat) : Nat → List Int → List Int
  | _, [] => []
  | k, z :: zs => nl k (d + 1) ++ dec z ++ mem d (k + 1) zs
/-- What ends the text of n members. -/
def clos (n d : Nat) : List Int := (if 0 < n then nl 0 d else []) ++ [93]
def text (zs : List Int) (d : Nat) : List Int := 91 :: (mem d 0 zs ++ clos zs.length d)

theorem mem_flat (d : Nat) : ∀ (k : Nat) (zs : List Int), (∀ z ∈ zs, z.natAbs < 10 ^ 20) → ∀ c ∈ mem d k zs, flat c
  | _, [], _, c, hc => by simp [mem] at hc
  | k, z :: zs, h, c, hc => by
    rw [mem, List.mem_append, List.mem_append] at hc
    rcases hc with (hc | hc) | hc
    · exact nl_flat _ _ c hc
    · exact dec_flat z (h z (by simp)) c hc
    · exact mem_flat d (k + 1) zs (fun z hz => h z (by simp [hz])) c hc
theorem mem_len (d : Nat) : ∀ (k : Nat) (zs : List Int), (∀ z ∈ zs, z.natAbs < 10 ^ 20) → (mem d k zs).length ≤ zs.length * (25 + 2 * d)
  | _, [], _ => by simp [mem]
  | k, z :: zs, h => by
    have h1 := nl_len k (d + 1)
    have h2 := (dec_len z (h z (by simp))).1
    have h3 := mem_len d (k + 1) zs (fun z hz => h z (by simp [hz]))
    rw [mem, List.length_append, List.length_append, List.length_cons, Nat.add_mul]
    omega
theorem mem_snoc (d : Nat) : ∀ (k : Nat) (zs : List Int) (z : Int), mem d k (zs ++ [z]) = mem d k zs ++ (nl (k + zs.length) (d + 1) ++ dec z)
  | k, [], z => by simp [mem]
  | k, y :: zs, z => by
    rw [List.cons_append, mem, mem_snoc d (k + 1) zs z, mem, List.length_cons, show k + 1 + zs.length = k + (zs.length + 1) from by omega]
    simp
theorem clos_len (n d : Nat) : (clos n d).length ≤ 3 + 2 * d := by
  unfold clos; have := nl_len 0 d; split <;> simp <;> omega

theorem nest_text (zs : List Int) (d : Nat) (h : ∀ z ∈ zs, z.natAbs < 10 ^ 20) : nest (text zs d) = 1 := by
  unfold nest text
  rw [go_out, if_neg (by decide), if_pos rfl, go_flat _ _ _ _ (mem_flat d 0 zs h)]
  unfold clos
  have e : go ((if 0 < zs.length then nl 0 d else []) ++ [93]) 0 (max 0 (0 + 1)) (0 + 1) = go [93] 0 (max 0 (0 + 1)) (0 + 1) := by
    split
    · exact go_flat _ _ _ _ (nl_flat 0 d)
    · rfl
  rw [e]; rfl
end Go.Proofs.Qxb6003729a.Lay
