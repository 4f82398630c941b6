import Derived.Test.Qxb6003783aDoorRows
import Derived.WalkKit
import Derived.ProofKit
import Derived.WalkSpells
import Derived.WalkSmall
import Derived.Deep.QuietTactic
import Derived.BigQuiet
namespace Go.Proofs.Qxb6003783aDoor.Mem
open Go.RowKit
set_option linter.unusedVariables false

theorem hid {p : Prop} (h : p) : Hid p := h
/-- A slice of n one-cell elements at a: element k reads f k. -/
def Row (w : World) (a : Option Addr) (n : Nat) (f : Nat → Value) : Prop :=
  n = 0 ∨ ∃ b off, a = some ⟨b, off, none⟩ ∧ ∀ k, k < n → w.cell? ⟨b, off + k, none⟩ = some (f k)

theorem Row.mono {w w' : World} {a : Option Addr} {n : Nat} {f : Nat → Value} (h : Row w a n f) (hw : ∀ p v, w.cell? p = some v → w'.cell? p = some v) : Row w' a n f := by
  rcases h with h | ⟨b, off, ha, hc⟩
  · exact Or.inl h
  · exact Or.inr ⟨b, off, ha, fun k hk => hw _ _ (hc k hk)⟩

/-- The call returned a bool x with P x. -/
def RetB (e : Ending) (P : Bool → Prop) : Prop := ∃ x, e = .returned (.bool x) ∧ P x
theorem RetB.mk {P : Bool → Prop} (x : Bool) (h : P x) : RetB (.returned (.bool x)) P := ⟨x, rfl, h⟩
theorem ret_int {k : IntKind} {a b : Int} (h : a = b) : Ending.returned (.int k a) = .returned (.int k b) := by rw [h]
theorem ret_bool {a b : Bool} (h : a = b) : Ending.returned (.bool a) = .returned (.bool b) := by rw [h]

def mk (n : Nat) (f : Nat → Value) : Array Value := ((List.range n).map f).toArray
theorem mk_size (n : Nat) (f : Nat → Value) : (mk n f).size = n := by simp [mk]
theorem mk_get (n : Nat) (f : Nat → Value) (k : Nat) (h : k < n) : (mk n f)[k]? = some (f k) := by simp [mk, h]
theorem mk_of (n : Nat) (f : Nat → Value) (arr : Array Value) (hs : arr.size = n) (h : ∀ j, j < n → arr[j]? = some (f j)) : arr = mk n f := by
  apply Array.ext_getElem?
  intro j
  rcases Nat.lt_or_ge j n with hj | hj
  · rw [h j hj, mk_get n f j hj]
  · rw [Array.getElem?_eq_none (by omega), Array.getElem?_eq_none (by rw [mk_size]; exact hj)]

/-- The clone of a slice of n elements f: nil for nil; else a new block. -/
def Own (w w' : World) (t : TypeId) (a' : Option Addr) (n : Nat) (f : Nat → Value) : Prop :=
  (a' = none ∧ n = 0 ∧ w' = w) ∨ (a' = some ⟨w.heap.size, 0, none⟩ ∧ w' = w.alloc (.cells (mk n f) t))
def RetOwn (e : Ending) (w w' : World) (t : TypeId) (n : Nat) (f : Nat → Value) : Prop := ∃ a', e = .returned (.slice a' n n) ∧ Own w w' t a' n f

theorem made_one (z : Value) (hz : z.cells = #[z]) (n : Nat) : madeCells z.cells (n * 1) = mk n (fun _ => z) := by
  rw [hz, Nat.mul_one]
  apply mk_of
  · simp [madeCells]
  · intro j hj
    simp [madeCells, hj, Nat.mod_one]

theorem Tryd.info24 : (Tryd.prog.info? 24).map (fun i => (i.zero, i.size, i.bytes)) = some (some (.int .u64 0), 1, 8) := by kernel_rfl
theorem make_u64 (n : Nat) (h : n ≤ 1048576) (w : World) : Sem.run Tryd.prog (Instr.makeSlice 22 (.int .i64 n) (.int .i64 n)) w = .ok (.slice (some ⟨w.heap.size, 0, none⟩) n n) (w.alloc (.cells (mk n (fun _ => .int .u64 0)) 24)) := by
  obtain ⟨i0, hi, hz0, hz1, hz2⟩ := info_parts Tryd.info24
  rw [run_make w 22 24 i0 _ Tryd.underlying22 hi hz0 .i64 .i64 n n (by omega) (by omega) (by rw [hz2]; omega) (by omega), hz1]
  rw [Int.toNat_natCast, made_one _ rfl]
theorem Tryd.info9 : (Tryd.prog.info? 9).map (fun i => (i.zero, i.size, i.bytes)) = some (some (.string ByteArray.empty), 1, 16) := by kernel_rfl
theorem make_str (n : Nat) (h : n ≤ 1048576) (w : World) : Sem.run Tryd.prog (Instr.makeSlice 23 (.int .i64 n) (.int .i64 n)) w = .ok (.slice (some ⟨w.heap.size, 0, none⟩) n n) (w.alloc (.cells (mk n (fun _ => .string ByteArray.empty)) 9)) := by
  obtain ⟨i0, hi, hz0, hz1, hz2⟩ := info_parts Tryd.info9
  rw [run_make w 23 9 i0 _ Tryd.underlying23 hi hz0 .i64 .i64 n n (by omega) (by omega) (by rw [hz2]; omega) (by omega), hz1]
  rw [Int.toNat_natCast, made_one _ rfl]

theorem set_agrees {arr : Array Value} {n k : Nat} {f : Nat → Value} (hs : arr.size = n) (h : ∀ j, j < k → arr[j]? = some (f j)) (hk : k < n) : ∀ j, j < k + 1 → (arr.setIfInBounds k (f k))[j]? = some (f j) := by
  intro j hj
  rw [Array.getElem?_setIfInBounds]
  rcases Nat.lt_succ_iff_lt_or_eq.mp hj with h1 | rfl
  · rw [if_neg (by omega)]; exact h j h1
  · rw [if_pos rfl, if_pos (by omega)]

set_option maxHeartbeats 400000 in
theorem copyU64_any (a : Option Addr) (n cap : Nat) (z : Nat → Int) (w : World) (hr : Row w a n (fun k => .int .u64 (z k))) (hnil : a = none → n = 0) (hn : n ≤ 1048576) :
    Calls Tryd.prog 5 #[.slice a n cap] w fun e w' => RetOwn e w w' 24 n (fun k => .int .u64 (z k)) := by
  have hmk := make_u64 n hn
  have heq := fun w => Lib.run_eql_slice_nil (P := Tryd.prog) w 22 24 a n cap 0 0 Tryd.underlying22
  cases a with
  | none =>
    have h0 := hnil rfl
    subst h0
    go_enter Tryd.func5, Tryd.ntmps5
    go_wp2
    go_ret
    exact ⟨none, rfl, Or.inl ⟨rfl, rfl, rfl⟩⟩
  | some ad =>
    clear hnil
    go_enter Tryd.func5, Tryd.ntmps5
    go_wp2
    clear hmk heq
    go_loopw [4] (fun i wr => ∃ (k : Nat) (arr : Array Value), k ≤ n ∧ i = .int .i64 k ∧ arr.size = n ∧ (∀ j, j < k → arr[j]? = some (.int .u64 (z j))) ∧ wr = w.alloc (.cells arr 24)) (fun i _ => n - (intOf i).toNat)
    case atStart => exact ⟨0, _, by omega, rfl, mk_size _ _, fun j hj => by omega, rfl⟩
    case round =>
      obtain ⟨k, arr, hk, rfl, hsz, hag, rfl⟩ := hrel
      by_cases hlt : k < n
      · rcases hr with h0 | ⟨b, off, hba, hc⟩
        · omega
        · injection hba with hba
          subst hba
          have hck : ∀ arr, (w.alloc (.cells arr 24)).cell? ⟨b, off + k, none⟩ = some (.int .u64 (z k)) := fun arr => Lib.cell?_alloc_some _ (hc k hlt)
          have hset := set_agrees hsz hag hlt
          obtain ⟨v0, hv0⟩ : ∃ v0, arr[k]? = some v0 := ⟨_, Array.getElem?_eq_getElem (by omega)⟩
          have HSZ : Hid (arr.size = n) := hsz
          have HSE : Hid (∀ j, j < k + 1 → (arr.setIfInBounds k (.int .u64 (z k)))[j]? = some (.int .u64 (z j))) := hset
          clear hc hag hset hsz
          go_wp2
          go_roundw
          case rel => exact ⟨k + 1, _, by omega, by go_num, by rw [Array.size_setIfInBounds]; exact HSZ.out, HSE.out, rfl⟩
          case measure => simp [intOf]; omega
      · obtain rfl : k = n := by omega
        have he := mk_of k _ arr hsz hag
        have HE : Hid (w.alloc (.cells arr 24) = w.alloc (.cells (mk k (fun k => .int .u64 (z k))) 24)) := by rw [he]; rfl
        clear he hag hsz
        go_wp2
        go_ret
        exact ⟨some ⟨w.heap.size, 0, none⟩, rfl, Or.inr ⟨rfl, HE.out⟩⟩

set_option maxHeartbeats 400000 in
theorem copyStr_any (a : Option Addr) (n cap : Nat) (z : Nat → ByteArray) (w : World) (hr : Row w a n (fun k => .string (z k))) (hnil : a = none → n = 0) (hn : n ≤ 1048576) :
    Calls Tryd.prog 6 #[.slice a n cap] w fun e w' => RetOwn e w w' 9 n (fun k => .string (z k)) := by
  have hmk := make_str n hn
  have heq := fun w => Lib.run_eql_slice_nil (P := Tryd.prog) w 23 9 a n cap 0 0 Tryd.underlying23
  cases a with
  | none =>
    have h0 := hnil rfl
    subst h0
    go_enter Tryd.func6, Tryd.ntmps6
    go_wp2
    go_ret
    exact ⟨none, rfl, Or.inl ⟨rfl, rfl, rfl⟩⟩
  | some ad =>
    clear hnil
    go_enter Tryd.func6, Tryd.ntmps6
    go_wp2
    clear hmk heq
    go_loopw [4] (fun i wr => ∃ (k : Nat) (arr : Array Value), k ≤ n ∧ i = .int .i64 k ∧ arr.size = n ∧ (∀ j, j < k → arr[j]? = some (.string (z j))) ∧ wr = w.alloc (.cells arr 9)) (fun i _ => n - (intOf i).toNat)
    case atStart => exact ⟨0, _, by omega, rfl, mk_size _ _, fun j hj => by omega, rfl⟩
    case round =>
      obtain ⟨k, arr, hk, rfl, hsz, hag, rfl⟩ := hrel
      by_cases hlt : k < n
      · rcases hr with h0 | ⟨b, off, hba, hc⟩
        · omega
        · injection hba with hba
          subst hba
          have hck : ∀ arr, (w.alloc (.cells arr 9)).cell? ⟨b, off + k, none⟩ = some (.string (z k)) := fun arr => Lib.cell?_alloc_some _ (hc k hlt)
          have hset := set_agrees hsz hag hlt
          obtain ⟨v0, hv0⟩ : ∃ v0, arr[k]? = some v0 := ⟨_, Array.getElem?_eq_getElem (by omega)⟩
          have HSZ : Hid (arr.size = n) := hsz
          have HSE : Hid (∀ j, j < k + 1 → (arr.setIfInBounds k (.string (z k)))[j]? = some (.string (z j))) := hset
          clear hc hag hset hsz
          go_wp2
          go_roundw
          case rel => exact ⟨k + 1, _, by omega, by go_num, by rw [Array.size_setIfInBounds]; exact HSZ.out, HSE.out, rfl⟩
          case measure => simp [intOf]; omega
      · obtain rfl : k = n := by omega
        have he := mk_of k _ arr hsz hag
        have HE : Hid (w.alloc (.cells arr 9) = w.alloc (.cells (mk k (fun k => .string (z k))) 9)) := by rw [he]; rfl
        clear he hag hsz
        go_wp2
        go_ret
        exact ⟨some ⟨w.heap.size, 0, none⟩, rfl, Or.inr ⟨rfl, HE.out⟩⟩

theorem cell_at {w : World} {g : Nat} {arr : Array Value} {t : TypeId} (h : w.heap[g]? = some (.cells arr t (0, 0))) {j : Nat} {v : Value} (hj : arr[j]? = some v) : w.cell? ⟨g, j, none⟩ = some v := by
  simp [World.cell?, h, hj]
theorem free_at {w : World} {g : Nat} {arr : Array Value} {t : TypeId} (h : w.heap[g]? = some (.cells arr t (0, 0))) (j : Nat) : w.frozen? ⟨g, j, none⟩ = false := by
  simp [World.frozen?, h]

theorem heap_alloc_lt (w : World) (o : Obj) {k : Nat} (h : k < w.heap.size) : (w.alloc o).heap[k]? = w.heap[k]? := Below.heap_alloc w o k h
theorem lt_of_heap {w : World} {g : Nat} {o : Obj} (h : w.heap[g]? = some o) : g < w.heap.size := by
  rcases Nat.lt_or_ge g w.heap.size with h1 | h1
  · exact h1
  · rw [Array.getElem?_eq_none h1] at h; cases h

theorem set_heap {w : World} {g : Nat} {arr : Array Value} {t : TypeId} (h : w.heap[g]? = some (.cells arr t (0, 0))) (j : Nat) (v : Value) : (w.setCell ⟨g, j, none⟩ v).heap[g]? = some (.cells (arr.setIfInBounds j v) t (0, 0)) := heap_setCell_same w g j arr t v h

theorem grown_trans {a b c : World} {row : Option Nat} (h : a.grownBy b row) (k : b.grownBy c row) : a.grownBy c row :=
  ⟨k.os.trans h.os, k.tape.trans h.tape, k.output.trans h.output, Nat.le_trans h.size k.size, fun i hi hne => (k.block i (Nat.lt_of_lt_of_le hi h.size) hne).trans (h.block i hi hne)⟩
theorem grown_refl (a : World) (row : Option Nat) : a.grownBy a row := ⟨rfl, rfl, rfl, Nat.le_refl _, fun _ _ _ => rfl⟩
theorem grown_alloc (a : World) (o : Obj) (row : Option Nat) : a.grownBy (a.alloc o) row := ⟨rfl, rfl, rfl, by simp, fun i hi _ => heap_alloc_lt a o hi⟩
theorem grown_alloc' {a b : World} {o : Obj} (h : a.alloc o = b) (row : Option Nat) : a.grownBy b row := h ▸ grown_alloc a o row
theorem grown_set (a : World) (g j : Nat) (v : Value) : a.grownBy (a.setCell ⟨g, j, none⟩ v) (some g) :=
  ⟨rfl, rfl, rfl, by simp, fun i hi hne => heap_setCell_other _ _ _ _ (by intro e; exact hne (by rw [e]))⟩

theorem Own.below {w w' : World} {t : TypeId} {a' : Option Addr} {n : Nat} {f : Nat → Value} (h : Own w w' t a' n f) : Below w.heap.size w w' := by
  rcases h with ⟨_, _, rfl⟩ | ⟨_, rfl⟩
  · exact Below.refl _ _
  · exact (Below.refl _ _).alloc (Nat.le_refl _) _
theorem Own.row {w w' : World} {t : TypeId} {a' : Option Addr} {n : Nat} {f : Nat → Value} (h : Own w w' t a' n f) : Row w' a' n f := by
  rcases h with ⟨_, h0, rfl⟩ | ⟨h1, rfl⟩
  · exact Or.inl h0
  · exact Or.inr ⟨_, 0, h1, fun k hk => by rw [Nat.zero_add, World.cell?_alloc_new]; exact mk_get n f k hk⟩
theorem Row.later {w w' : World} {a : Option Addr} {n : Nat} {f : Nat → Value} (h : Row w a n f) (hb : Below w.heap.size w w') : Row w' a n f := h.mono (fun p v hp => cell_later hb hp)
theorem grown_any {a b : World} (h : a.grownBy b none) (ρ : Option Nat) : a.grownBy b ρ := ⟨h.os, h.tape, h.output, h.size, fun k hk _ => h.block k hk (by simp)⟩
theorem grown_of_below {a b : World} (h : Below a.heap.size a b) : a.grownBy b none := ⟨h.os, h.tape, h.output, h.size, fun k hk _ => h.block k hk⟩
/-- What 'open_ints' and 'open_strings' give, as the walk asks it. -/
theorem row_of {w : World} {x : Addr} {len n : Nat} {f : Nat → Value} (hl : len ≤ n) (hc : ∀ i, i < n → w.cell? (x.add i) = some (f i)) : Row w (some x) len f := by
  rcases Nat.eq_zero_or_pos len with h | h
  · exact Or.inl h
  · have h0 := hc 0 (by omega)
    obtain ⟨b, off, sp⟩ := x
    have hs : sp = none := by
      cases sp with
      | none => rfl
      | some s =>
        exfalso
        simp only [Addr.add, World.cell?] at h0
        split at h0 <;> simp_all
    subst hs
    refine Or.inr ⟨b, off, rfl, fun k hk => ?_⟩
    have := hc k (by omega)
    have e : (⟨b, off, none⟩ : Addr).add k = ⟨b, off + k, none⟩ := by unfold Addr.add; split <;> simp_all
    rw [e] at this; exact this

end Go.Proofs.Qxb6003783aDoor.Mem
