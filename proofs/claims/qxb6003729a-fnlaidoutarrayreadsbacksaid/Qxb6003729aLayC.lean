import Derived.Test.Qxb6003729aLayB
namespace Go.Proofs.Qxb6003729a.Lay
open Num

theorem sp_rep : ∀ (m : Nat) (c : Int) (r : List Int), isS c = false → sp (List.replicate m 32 ++ (c :: r)) = m
  | 0, c, r, h => by simpa using sp_no h
  | m + 1, c, r, h => by
    rw [List.replicate_succ, List.cons_append, sp_yes (by rfl), sp_rep m c r h]
theorem sp_nl (m : Nat) (c : Int) (r : List Int) (h : isS c = false) : sp (10 :: (List.replicate m 32 ++ (c :: r))) = m + 1 := by
  rw [sp_yes (by rfl), sp_rep m c r h]
theorem dec_head (z : Int) (hz : z.natAbs < 10 ^ 20) : ∃ c cs, dec z = c :: cs ∧ isS c = false := by
  by_cases h0 : z = 0
  · subst h0; exact ⟨48, [], rfl, rfl⟩
  · obtain ⟨ds, e1, e2, _, _, e5⟩ := D_form 20 z.natAbs [] hz
    rw [List.append_nil] at e1
    obtain ⟨c, cs, e, _⟩ := e5 (by omega)
    by_cases hneg : z < 0
    · exact ⟨45, _, dec_neg hneg, rfl⟩
    · refine ⟨c, cs, by rw [dec_pos (zpos h0 hneg), e1, e], ?_⟩
      have := e2 c (by rw [e]; simp)
      rw [isD] at this
      have h : 48 ≤ c ∧ c ≤ 57 := by simpa using this
      simp [isS]; omega
theorem getD_drop {zs : List Int} {p : Nat} {a b : List Int} (h : zs.drop p = a ++ b) (j : Nat) (hj : j < a.length) : zs.getD (p + j) 0 = a.getD j 0 := by
  have e : zs[p + j]? = a[j]? := by
    rw [← List.getElem?_drop, h, List.getElem?_append_left hj]
  simp [List.getD, e]
theorem len_drop {zs : List Int} {p : Nat} {a b : List Int} (h : zs.drop p = a ++ b) (ha : 0 < a.length) : p + a.length ≤ zs.length := by
  have := congrArg List.length h
  rw [List.length_drop, List.length_append] at this; omega

theorem tail_ends (d k n : Nat) (rest : List Int) (hn : 0 < n) : Ends (mem d (k + 1) rest ++ clos n d) := by
  cases rest with
  | nil =>
    rw [mem, clos, if_pos hn, nl, if_neg (by omega)]
    exact ⟨10, _, rfl, by omega⟩
  | cons z zs =>
    rw [mem, nl, if_pos (by omega)]
    exact ⟨44, _, rfl, by omega⟩

/-- Behind the comma of member k, if there is one. -/
def p1 (k p : Nat) : Nat := if 0 < k then p + 1 else p
theorem comma {zs : List Int} {d k n p : Nat} {z : Int} {rest : List Int} (h : zs.drop p = mem d k (z :: rest) ++ clos n d) (hk : 0 < k) : sp (zs.drop p) = 0 ∧ atC zs p 44 = true := by
  rw [mem, nl, if_pos hk] at h
  have h' : zs.drop p = 44 :: (((10 :: List.replicate (2 * (d + 1)) 32) ++ dec z ++ mem d (k + 1) rest) ++ clos n d) := by rw [h]; simp
  refine ⟨by rw [h', sp_no (by rfl)], by rw [atC_cons h']; rfl⟩
theorem lined {zs : List Int} {d k n p : Nat} {z : Int} {rest : List Int} (h : zs.drop p = mem d k (z :: rest) ++ clos n d) : zs.drop (p1 k p) = 10 :: (List.replicate (2 * (d + 1)) 32 ++ (dec z ++ (mem d (k + 1) rest ++ clos n d))) := by
  rw [mem, nl] at h
  unfold p1
  by_cases hk : 0 < k
  · rw [if_pos hk] at h ⊢
    have h' : zs.drop p = 44 :: (10 :: (List.replicate (2 * (d + 1)) 32 ++ (dec z ++ (mem d (k + 1) rest ++ clos n d)))) := by rw [h]; simp
    exact drop_succ h'
  · rw [if_neg hk] at h ⊢
    rw [h]; simp
/-- Where member k begins. -/
def p2 (d k p : Nat) : Nat := p1 k p + (2 * (d + 1) + 1)
theorem blanks {zs : List Int} {d k n p : Nat} {z : Int} {rest : List Int} (h : zs.drop p = mem d k (z :: rest) ++ clos n d) (hz : z.natAbs < 10 ^ 20) : p1 k p + sp (zs.drop (p1 k p)) = p2 d k p := by
  obtain ⟨c, cs, e, hc⟩ := dec_head z hz
  rw [lined h, e, List.cons_append, sp_nl _ _ _ hc]; rfl
theorem member {zs : List Int} {d k n p : Nat} {z : Int} {rest : List Int} (h : zs.drop p = mem d k (z :: rest) ++ clos n d) : zs.drop (p2 d k p) = dec z ++ (mem d (k + 1) rest ++ clos n d) := by
  have h1 := lined h
  have h2 : zs.drop (p1 k p) = (10 :: List.replicate (2 * (d + 1)) 32) ++ (dec z ++ (mem d (k + 1) rest ++ clos n d)) := by rw [h1]; simp
  have h3 := drop_add h2
  rw [List.length_cons, List.length_replicate] at h3
  exact h3
theorem closing {zs : List Int} {d n p : Nat} (h : zs.drop p = clos n d) : atC zs (p + sp (zs.drop p)) 93 = true ∧ p + sp (zs.drop p) + 1 = zs.length := by
  have hl := congrArg List.length h
  rw [List.length_drop] at hl
  unfold clos at h hl
  by_cases hn : 0 < n
  · rw [if_pos hn, nl, if_neg (by omega), List.nil_append, List.cons_append] at h
    rw [if_pos hn, nl, if_neg (by omega)] at hl
    have hs : sp (zs.drop p) = 2 * d + 1 := by rw [h, sp_nl _ _ _ (by rfl)]
    have h2 : zs.drop p = (10 :: List.replicate (2 * d) 32) ++ [93] := by rw [h]; simp
    have h3 := drop_add h2
    rw [List.length_cons, List.length_replicate] at h3
    refine ⟨by rw [hs, atC_cons h3]; rfl, ?_⟩
    simp at hl; omega
  · rw [if_neg hn, List.nil_append] at h
    rw [if_neg hn] at hl
    have hs : sp (zs.drop p) = 0 := by rw [h, sp_no (by rfl)]
    refine ⟨by rw [hs, Nat.add_zero, atC_cons h]; rfl, ?_⟩
    simp at hl; omega
theorem mem_drop (d : Nat) : ∀ (k : Nat) (ms : List Int), k < ms.length → mem d k (ms.drop k) = mem d k (ms.getD k 0 :: ms.drop (k + 1)) := by
  intro k ms h; rw [drop_at ms k h]
theorem take_succ (ms : List Int) (k : Nat) (h : k < ms.length) : ms.take (k + 1) = ms.take k ++ [ms.getD k 0] := by
  rw [List.take_succ_eq_append_getElem h]; simp [List.getD, List.getElem?_eq_getElem h]
theorem mem_next (d k : Nat) (ms : List Int) (h : k < ms.length) : mem d 0 (ms.take (k + 1)) = mem d 0 (ms.take k) ++ (nl k (d + 1) ++ dec (ms.getD k 0)) := by
  rw [take_succ ms k h, mem_snoc, List.length_take, Nat.min_eq_left (by omega), Nat.zero_add]
end Go.Proofs.Qxb6003729a.Lay
