import Derived.Test.Qxb6003707aOfdB
namespace Go.Proofs.Qxb6003707a.Ofd
open Go.RowKit
set_option linter.unusedVariables false

theorem Try.info57 : (Try.prog.info? 57).map (fun i => (i.zero, i.size, i.bytes)) = some (some (.agg #[.string ByteArray.empty, .string ByteArray.empty, .int .i64 0, .int .i64 0]), 4, 48) := by kernel_rfl

/-- n zero fields. -/
def zeroFields (n : Nat) : Array Value := madeCells #[.string ByteArray.empty, .string ByteArray.empty, .int .i64 0, .int .i64 0] (n * 4)
theorem zeroFields_size (n : Nat) : (zeroFields n).size = n * 4 := by simp [zeroFields, madeCells]
theorem make_fields (n : Nat) (h : n ≤ 1048576) (w : World) : Sem.run Try.prog (Instr.makeSlice 54 (.int .i64 n) (.int .i64 n)) w = .ok (.slice (some ⟨w.heap.size, 0, none⟩) n n) (w.alloc (.cells (zeroFields n) 57)) := by
  obtain ⟨i0, hi, hz0, hz1, hz2⟩ := info_parts Try.info57
  rw [run_make w 54 57 i0 _ Try.underlying54 hi hz0 .i64 .i64 n n (by omega) (by omega) (by rw [hz2]; omega) (by omega), hz1]
  rw [Int.toNat_natCast]
  rfl

/-- The first k fields are laid. -/
def Fields (arr : Array Value) (k : Nat) (s : Nat → ByteArray) (z : Nat → Int) : Prop :=
  ∀ j, j < k → arr[j * 4]? = some (.string ⟨#[]⟩) ∧ arr[j * 4 + 1]? = some (.string (s j)) ∧ arr[j * 4 + 2]? = some (.int .i64 (z j)) ∧ arr[j * 4 + 3]? = some (.int .i64 0)

theorem Fields.step {arr : Array Value} {n k : Nat} {s : Nat → ByteArray} {z : Nat → Int} (h : Fields arr k s z) (hs : arr.size = n * 4) (hk : k < n) :
    Fields ((((arr.setIfInBounds (k * 4) (.string ⟨#[]⟩)).setIfInBounds (k * 4 + 1) (.string (s k))).setIfInBounds (k * 4 + 2) (.int .i64 (z k))).setIfInBounds (k * 4 + 3) (.int .i64 0)) (k + 1) s z := by
  intro j hj
  rcases Nat.lt_succ_iff_lt_or_eq.mp hj with h1 | rfl
  · obtain ⟨e0, e1, e2, e3⟩ := h j h1
    refine ⟨?_, ?_, ?_, ?_⟩
    all_goals
      simp only [Array.getElem?_setIfInBounds]
      rw [if_neg (by omega), if_neg (by omega), if_neg (by omega), if_neg (by omega)]
      assumption
  · refine ⟨?_, ?_, ?_, ?_⟩
    all_goals simp [Array.getElem?_setIfInBounds, hs]
    all_goals omega

end Go.Proofs.Qxb6003707a.Ofd
