import Derived.Laws.BytesArg
namespace Go.Proofs.Qxb6003707a.Ofd

/-- What a field of type t is padded with. -/
def pad (t : ByteArray) : Int := if t.toList == [78] then 48 else 32
theorem pad_num {t : ByteArray} (h : (t.toList == [78]) = true) : pad t = 48 := if_pos h
theorem pad_text {t : ByteArray} (h : (t.toList == [78]) = false) : pad t = 32 := by unfold pad; rw [h]; rfl
theorem pad_range (t : ByteArray) : 0 ≤ pad t ∧ pad t ≤ 255 := by unfold pad; split <;> omega

/-- The text of an empty record. -/
def blank : List ByteArray → List Int → List Int
  | t :: ts, w :: ws => List.replicate w.toNat (pad t) ++ blank ts ws
  | _, _ => []

/-- Where field k starts. -/
def psum (ws : List Int) (k : Nat) : Nat := ((ws.take k).map Int.toNat).sum

theorem psum_zero (ws : List Int) : psum ws 0 = 0 := by simp [psum]
theorem psum_succ (ws : List Int) (k : Nat) (h : k < ws.length) : psum ws (k + 1) = psum ws k + (ws.getD k 0).toNat := by
  unfold psum
  rw [List.take_succ_eq_append_getElem h, List.map_append, List.sum_append]
  simp [List.getD, List.getElem?_eq_getElem h]
theorem psum_mono (ws : List Int) (k : Nat) (_h : k ≤ ws.length) : psum ws k ≤ psum ws ws.length := by
  unfold psum
  rw [List.take_length]
  conv => rhs; rw [← List.take_append_drop k ws]
  rw [List.map_append, List.sum_append]; omega
theorem psum_cons (w : Int) (ws : List Int) (k : Nat) : psum (w :: ws) (k + 1) = w.toNat + psum ws k := by simp [psum]

theorem blank_len : ∀ (ts : List ByteArray) (ws : List Int), ts.length = ws.length → (blank ts ws).length = psum ws ws.length
  | [], [], _ => by simp [blank, psum]
  | t :: ts, w :: ws, h => by
    have := blank_len ts ws (by simpa using h)
    rw [blank, List.length_append, this, List.length_replicate, List.length_cons, psum_cons]
  | [], _ :: _, h => by simp at h
  | _ :: _, [], h => by simp at h

theorem blank_get : ∀ (ts : List ByteArray) (ws : List Int) (k d : Nat), ts.length = ws.length → k < ws.length → d < (ws.getD k 0).toNat →
    (blank ts ws)[psum ws k + d]? = some (pad (ts.getD k ByteArray.empty))
  | [], [], _, _, _, hk, _ => by simp at hk
  | t :: ts, w :: ws, 0, d, h, _, hd => by
    have hd' : d < w.toNat := by simpa using hd
    rw [blank, psum_zero, Nat.zero_add, List.getElem?_append_left (by simpa using hd')]
    rw [List.getElem?_replicate, if_pos hd']; simp
  | t :: ts, w :: ws, k + 1, d, h, hk, hd => by
    have := blank_get ts ws k d (by simpa using h) (by simpa using hk) (by simpa using hd)
    rw [blank, psum_cons, List.getElem?_append_right (by simp; omega)]
    simpa [show w.toNat + psum ws k + d - w.toNat = psum ws k + d from by omega] using this
  | [], _ :: _, _, _, h, _, _ => by simp at h
  | _ :: _, [], _, _, h, _, _ => by simp at h

theorem blank_range : ∀ (ts : List ByteArray) (ws : List Int) (n : Int), n ∈ blank ts ws → 0 ≤ n ∧ n ≤ 255
  | t :: ts, w :: ws, n, h => by
    rw [blank, List.mem_append] at h
    rcases h with h | h
    · rw [List.mem_replicate] at h; rw [h.2]; exact pad_range t
    · exact blank_range ts ws n h
  | [], _, _, h => by simp [blank] at h
  | _ :: _, [], _, h => by simp [blank] at h
end Go.Proofs.Qxb6003707a.Ofd
