namespace Go.Proofs.Qxb6003729a.Nest

/-- The deepest level of what is left, read in state st (0: outside a string, 1: in one, 2: in one, behind a backslash). -/
def go : List Int → Nat → Int → Int → Int
  | [], _, D, _ => D
  | c :: cs, 0, D, d =>
    if c = 34 then go cs 1 D d
    else if c = 91 then go cs 0 (max D (d + 1)) (d + 1)
    else if c = 123 then go cs 0 (max D (d + 1)) (d + 2)
    else if c = 93 then go cs 0 D (d - 1)
    else if c = 125 then go cs 0 D (d - 2)
    else go cs 0 D d
  | c :: cs, 1, D, d => if c = 92 then go cs 2 D d else if c = 34 then go cs 0 D d else go cs 1 D d
  | _ :: cs, _ + 2, D, d => go cs 1 D d

def nest (v : List Int) : Int := go v 0 0 0

theorem go_skip (l : List Int) (D d : Int) : go l 2 D d = go (l.drop 1) 1 D d := by
  cases l with
  | nil => simp [go]
  | cons c cs => simp [go]

theorem go_wrap : ∀ (v : List Int) (st : Nat) (D d : Int), go (v ++ [93]) st (D + 1) (d + 1) = go v st D d + 1
  | [], 0, D, d => by simp [go]
  | [], 1, D, d => by simp [go]
  | [], st + 2, D, d => by simp [go]
  | c :: cs, 0, D, d => by
    have e1 : max (D + 1) (d + 1 + 1) = max D (d + 1) + 1 := by omega
    have e2 : d + 1 - 1 = (d - 1) + 1 := by omega
    have e3 : d + 1 - 2 = (d - 2) + 1 := by omega
    have e4 : d + 1 + 2 = (d + 2) + 1 := by omega
    simp only [List.cons_append, go, e1, e2, e3, e4, go_wrap cs]
    repeat' split
    all_goals rfl
  | c :: cs, 1, D, d => by
    simp only [List.cons_append, go, go_wrap cs]
    repeat' split
    all_goals rfl
  | c :: cs, st + 2, D, d => by simp only [List.cons_append, go, go_wrap cs]

theorem nest_wrap (v : List Int) : nest ([91] ++ v ++ [93]) = nest v + 1 := by
  unfold nest
  have := go_wrap v 0 0 0
  simp only [List.cons_append, List.nil_append, go]
  rw [if_neg (by omega), if_pos trivial]
  rw [show max (0 : Int) (0 + 1) = 0 + 1 from by omega]; exact this

/-- One step of the loop outside a string, by the byte read. -/
theorem go_out (c : Int) (cs : List Int) (D d : Int) : go (c :: cs) 0 D d =
    if c = 34 then go cs 1 D d else if c = 91 then go cs 0 (max D (d + 1)) (d + 1) else if c = 123 then go cs 0 (max D (d + 1)) (d + 2) else if c = 93 then go cs 0 D (d - 1) else if c = 125 then go cs 0 D (d - 2) else go cs 0 D d := by rw [go]
theorem go_in (c : Int) (cs : List Int) (D d : Int) : go (c :: cs) 1 D d = if c = 92 then go (cs.drop 1) 1 D d else if c = 34 then go cs 0 D d else go cs 1 D d := by rw [go, go_skip]
end Go.Proofs.Qxb6003729a.Nest
