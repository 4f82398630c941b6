import Derived.Test.Qxb6003707aOfdA
namespace Go.Proofs.Qxb6003707a.Ofd
open Go.RowKit
set_option linter.unusedVariables false

def mk (n : Nat) (f : Nat → Value) : Array Value := ((List.range n).map f).toArray
theorem mk_size (n : Nat) (f : Nat → Value) : (mk n f).size = n := by simp [mk]
theorem mk_get (n : Nat) (f : Nat → Value) (k : Nat) (h : k < n) : (mk n f)[k]? = some (f k) := by simp [mk, h]
theorem mk_of (n : Nat) (f : Nat → Value) (arr : Array Value) (hs : arr.size = n) (h : ∀ j, j < n → arr[j]? = some (f j)) : arr = mk n f := by
  apply Array.ext_getElem?
  intro j
  rcases Nat.lt_or_ge j n with hj | hj
  · rw [h j hj, mk_get n f j hj]
  · rw [Array.getElem?_eq_none (by omega), Array.getElem?_eq_none (by rw [mk_size]; exact hj)]

/-- The clone of a slice of n elements f: nil for nil; else a new block. -/
def Own (w w' : World) (t : TypeId) (a' : Option Addr) (n : Nat) (f : Nat → Value) : Prop :=
  (a' = none ∧ n = 0 ∧ w' = w) ∨ (a' = some ⟨w.heap.size, 0, none⟩ ∧ w' = w.alloc (.cells (mk n f) t))
def RetOwn (e : Ending) (w w' : World) (t : TypeId) (n : Nat) (f : Nat → Value) : Prop := ∃ a', e = .returned (.slice a' n n) ∧ Own w w' t a' n f

theorem made_one (z : Value) (hz : z.cells = #[z]) (n : Nat) : madeCells z.cells (n * 1) = mk n (fun _ => z) := by
  rw [hz, Nat.mul_one]
  apply mk_of
  · simp [madeCells]
  · intro j hj
    simp [madeCells, hj, Nat.mod_one]

theorem Try.info5 : (Try.prog.info? 5).map (fun i => (i.zero, i.size, i.bytes)) = some (some (.int .u8 0), 1, 1) := by kernel_rfl
theorem Try.info3 : (Try.prog.info? 3).map (fun i => (i.zero, i.size, i.bytes)) = some (some (.int .i64 0), 1, 8) := by kernel_rfl
theorem Try.info9 : (Try.prog.info? 9).map (fun i => (i.zero, i.size, i.bytes)) = some (some (.string ByteArray.empty), 1, 16) := by kernel_rfl

theorem make_bytes (n : Nat) (h : n ≤ 1048576) (w : World) : Sem.run Try.prog (Instr.makeSlice 44 (.int .i64 n) (.int .i64 n)) w = .ok (.slice (some ⟨w.heap.size, 0, none⟩) n n) (w.alloc (.cells (mk n (fun _ => .int .u8 0)) 5)) := by
  obtain ⟨i0, hi, hz0, hz1, hz2⟩ := info_parts Try.info5
  rw [run_make w 44 5 i0 _ Try.underlying44 hi hz0 .i64 .i64 n n (by omega) (by omega) (by rw [hz2]; omega) (by omega), hz1]
  rw [Int.toNat_natCast, made_one _ rfl]
theorem make_ints (n : Nat) (h : n ≤ 1048576) (w : World) : Sem.run Try.prog (Instr.makeSlice 33 (.int .i64 n) (.int .i64 n)) w = .ok (.slice (some ⟨w.heap.size, 0, none⟩) n n) (w.alloc (.cells (mk n (fun _ => .int .i64 0)) 3)) := by
  obtain ⟨i0, hi, hz0, hz1, hz2⟩ := info_parts Try.info3
  rw [run_make w 33 3 i0 _ Try.underlying33 hi hz0 .i64 .i64 n n (by omega) (by omega) (by rw [hz2]; omega) (by omega), hz1]
  rw [Int.toNat_natCast, made_one _ rfl]
theorem make_strs (n : Nat) (h : n ≤ 1048576) (w : World) : Sem.run Try.prog (Instr.makeSlice 32 (.int .i64 n) (.int .i64 n)) w = .ok (.slice (some ⟨w.heap.size, 0, none⟩) n n) (w.alloc (.cells (mk n (fun _ => .string ByteArray.empty)) 9)) := by
  obtain ⟨i0, hi, hz0, hz1, hz2⟩ := info_parts Try.info9
  rw [run_make w 32 9 i0 _ Try.underlying32 hi hz0 .i64 .i64 n n (by omega) (by omega) (by rw [hz2]; omega) (by omega), hz1]
  rw [Int.toNat_natCast, made_one _ rfl]

theorem set_agrees {arr : Array Value} {n k : Nat} {f : Nat → Value} (hs : arr.size = n) (h : ∀ j, j < k → arr[j]? = some (f j)) (hk : k < n) : ∀ j, j < k + 1 → (arr.setIfInBounds k (f k))[j]? = some (f j) := by
  intro j hj
  rw [Array.getElem?_setIfInBounds]
  rcases Nat.lt_succ_iff_lt_or_eq.mp hj with h1 | rfl
  · rw [if_neg (by omega)]; exact h j h1
  · rw [if_pos rfl, if_pos (by omega)]

set_option maxHeartbeats 400000 in
theorem cloneBytes_any (a : Option Addr) (n cap : Nat) (z : Nat → Int) (w : World) (hr : Row w a n (fun k => .int .u8 (z k))) (hnil : a = none → n = 0) (hn : n ≤ 1048576) :
    Calls Try.prog 23 #[.slice a n cap] w fun e w' => RetOwn e w w' 5 n (fun k => .int .u8 (z k)) := by
  have hmk := make_bytes n hn
  have heq := fun w => Lib.run_eql_slice_nil (P := Try.prog) w 44 5 a n cap 0 0 Try.underlying44
  cases a with
  | none =>
    have h0 := hnil rfl
    subst h0
    go_enter Try.func23, Try.ntmps23
    go_wp2
    go_ret
    exact ⟨none, rfl, Or.inl ⟨rfl, rfl, rfl⟩⟩
  | some ad =>
    clear hnil
    go_enter Try.func23, Try.ntmps23
    go_wp2
    clear hmk heq
    go_loopw [4] (fun i wr => ∃ (k : Nat) (arr : Array Value), k ≤ n ∧ i = .int .i64 k ∧ arr.size = n ∧ (∀ j, j < k → arr[j]? = some (.int .u8 (z j))) ∧ wr = w.alloc (.cells arr 5)) (fun i _ => n - (intOf i).toNat)
    case atStart => exact ⟨0, _, by omega, rfl, mk_size _ _, fun j hj => by omega, rfl⟩
    case round =>
      obtain ⟨k, arr, hk, rfl, hsz, hag, rfl⟩ := hrel
      by_cases hlt : k < n
      · rcases hr with h0 | ⟨b, off, hba, hc⟩
        · omega
        · injection hba with hba
          subst hba
          have hck : ∀ arr, (w.alloc (.cells arr 5)).cell? ⟨b, off + k, none⟩ = some (.int .u8 (z k)) := fun arr => Lib.cell?_alloc_some _ (hc k hlt)
          have hset := set_agrees hsz hag hlt
          obtain ⟨v0, hv0⟩ : ∃ v0, arr[k]? = some v0 := ⟨_, Array.getElem?_eq_getElem (by omega)⟩
          have HSZ : Hid (arr.size = n) := hsz
          have HSE : Hid (∀ j, j < k + 1 → (arr.setIfInBounds k (.int .u8 (z k)))[j]? = some (.int .u8 (z j))) := hset
          clear hc hag hset hsz
          go_wp2
          go_roundw
          case rel => exact ⟨k + 1, _, by omega, by go_num, by rw [Array.size_setIfInBounds]; exact HSZ.out, HSE.out, rfl⟩
          case measure => simp [intOf]; omega
      · obtain rfl : k = n := by omega
        have he := mk_of k _ arr hsz hag
        have HE : Hid (w.alloc (.cells arr 5) = w.alloc (.cells (mk k (fun k => .int .u8 (z k))) 5)) := by rw [he]; rfl
        clear he hag hsz
        go_wp2
        go_ret
        exact ⟨some ⟨w.heap.size, 0, none⟩, rfl, Or.inr ⟨rfl, HE.out⟩⟩

set_option maxHeartbeats 400000 in
theorem cloneInts_any (a : Option Addr) (n cap : Nat) (z : Nat → Int) (w : World) (hr : Row w a n (fun k => .int .i64 (z k))) (hnil : a = none → n = 0) (hn : n ≤ 1048576) :
    Calls Try.prog 17 #[.slice a n cap] w fun e w' => RetOwn e w w' 3 n (fun k => .int .i64 (z k)) := by
  have hmk := make_ints n hn
  have heq := fun w => Lib.run_eql_slice_nil (P := Try.prog) w 33 3 a n cap 0 0 Try.underlying33
  cases a with
  | none =>
    have h0 := hnil rfl
    subst h0
    go_enter Try.func17, Try.ntmps17
    go_wp2
    go_ret
    exact ⟨none, rfl, Or.inl ⟨rfl, rfl, rfl⟩⟩
  | some ad =>
    clear hnil
    go_enter Try.func17, Try.ntmps17
    go_wp2
    clear hmk heq
    go_loopw [4] (fun i wr => ∃ (k : Nat) (arr : Array Value), k ≤ n ∧ i = .int .i64 k ∧ arr.size = n ∧ (∀ j, j < k → arr[j]? = some (.int .i64 (z j))) ∧ wr = w.alloc (.cells arr 3)) (fun i _ => n - (intOf i).toNat)
    case atStart => exact ⟨0, _, by omega, rfl, mk_size _ _, fun j hj => by omega, rfl⟩
    case round =>
      obtain ⟨k, arr, hk, rfl, hsz, hag, rfl⟩ := hrel
      by_cases hlt : k < n
      · rcases hr with h0 | ⟨b, off, hba, hc⟩
        · omega
        · injection hba with hba
          subst hba
          have hck : ∀ arr, (w.alloc (.cells arr 3)).cell? ⟨b, off + k, none⟩ = some (.int .i64 (z k)) := fun arr => Lib.cell?_alloc_some _ (hc k hlt)
          have hset := set_agrees hsz hag hlt
          obtain ⟨v0, hv0⟩ : ∃ v0, arr[k]? = some v0 := ⟨_, Array.getElem?_eq_getElem (by omega)⟩
          have HSZ : Hid (arr.size = n) := hsz
          have HSE : Hid (∀ j, j < k + 1 → (arr.setIfInBounds k (.int .i64 (z k)))[j]? = some (.int .i64 (z j))) := hset
          clear hc hag hset hsz
          go_wp2
          go_roundw
          case rel => exact ⟨k + 1, _, by omega, by go_num, by rw [Array.size_setIfInBounds]; exact HSZ.out, HSE.out, rfl⟩
          case measure => simp [intOf]; omega
      · obtain rfl : k = n := by omega
        have he := mk_of k _ arr hsz hag
        have HE : Hid (w.alloc (.cells arr 3) = w.alloc (.cells (mk k (fun k => .int .i64 (z k))) 3)) := by rw [he]; rfl
        clear he hag hsz
        go_wp2
        go_ret
        exact ⟨some ⟨w.heap.size, 0, none⟩, rfl, Or.inr ⟨rfl, HE.out⟩⟩

set_option maxHeartbeats 400000 in
theorem cloneStrs_any (a : Option Addr) (n cap : Nat) (z : Nat → ByteArray) (w : World) (hr : Row w a n (fun k => .string (z k))) (hnil : a = none → n = 0) (hn : n ≤ 1048576) :
    Calls Try.prog 16 #[.slice a n cap] w fun e w' => RetOwn e w w' 9 n (fun k => .string (z k)) := by
  have hmk := make_strs n hn
  have heq := fun w => Lib.run_eql_slice_nil (P := Try.prog) w 32 9 a n cap 0 0 Try.underlying32
  cases a with
  | none =>
    have h0 := hnil rfl
    subst h0
    go_enter Try.func16, Try.ntmps16
    go_wp2
    go_ret
    exact ⟨none, rfl, Or.inl ⟨rfl, rfl, rfl⟩⟩
  | some ad =>
    clear hnil
    go_enter Try.func16, Try.ntmps16
    go_wp2
    clear hmk heq
    go_loopw [4] (fun i wr => ∃ (k : Nat) (arr : Array Value), k ≤ n ∧ i = .int .i64 k ∧ arr.size = n ∧ (∀ j, j < k → arr[j]? = some (.string (z j))) ∧ wr = w.alloc (.cells arr 9)) (fun i _ => n - (intOf i).toNat)
    case atStart => exact ⟨0, _, by omega, rfl, mk_size _ _, fun j hj => by omega, rfl⟩
    case round =>
      obtain ⟨k, arr, hk, rfl, hsz, hag, rfl⟩ := hrel
      by_cases hlt : k < n
      · rcases hr with h0 | ⟨b, off, hba, hc⟩
        · omega
        · injection hba with hba
          subst hba
          have hck : ∀ arr, (w.alloc (.cells arr 9)).cell? ⟨b, off + k, none⟩ = some (.string (z k)) := fun arr => Lib.cell?_alloc_some _ (hc k hlt)
          have hset := set_agrees hsz hag hlt
          obtain ⟨v0, hv0⟩ : ∃ v0, arr[k]? = some v0 := ⟨_, Array.getElem?_eq_getElem (by omega)⟩
          have HSZ : Hid (arr.size = n) := hsz
          have HSE : Hid (∀ j, j < k + 1 → (arr.setIfInBounds k (.string (z k)))[j]? = some (.string (z j))) := hset
          clear hc hag hset hsz
          go_wp2
          go_roundw
          case rel => exact ⟨k + 1, _, by omega, by go_num, by rw [Array.size_setIfInBounds]; exact HSZ.out, HSE.out, rfl⟩
          case measure => simp [intOf]; omega
      · obtain rfl : k = n := by omega
        have he := mk_of k _ arr hsz hag
        have HE : Hid (w.alloc (.cells arr 9) = w.alloc (.cells (mk k (fun k => .string (z k))) 9)) := by rw [he]; rfl
        clear he hag hsz
        go_wp2
        go_ret
        exact ⟨some ⟨w.heap.size, 0, none⟩, rfl, Or.inr ⟨rfl, HE.out⟩⟩

end Go.Proofs.Qxb6003707a.Ofd
