import Derived.Test.Qxb6003783aDoorMem
import Derived.Test.Qxb6003783aDoorShelf
import Derived.Lib.ItoaMem
import Derived.Lib.ItoaLen
import Derived.WalkKit
import Derived.ProofKit
import Derived.WalkSpells
import Derived.WalkSmall
import Derived.Deep.QuietTactic
import Derived.BigQuiet
import Derived.BigCall
import Derived.BigGuard
namespace Go.Proofs.Qxb6003783aDoor.Fmt
open Go.RowKit Go.Sort Mem
set_option linter.unusedVariables false

/-- The name of the table that the row lists third. -/
def tabName : String := Rows.fnStaleFilesGrowWithCheckpointRow.named.headD ""
/-- The table of the powers of ten stands. -/
def Tab (w : World) : Prop := Lib.TabIs Tryd.prog w tabName .u64 Lib.pow10Tab
theorem Tab.alloc {w : World} (h : Tab w) (o : Obj) : Tab (w.alloc o) := Lib.tabIs_alloc h o
theorem Tab.later {w w' : World} (h : Tab w) (hb : Below w.heap.size w w') : Tab w' := by
  unfold Tab Lib.TabIs World.var? at *
  cases hg : Tryd.prog.globalNamed tabName with
  | none => rw [hg] at h; cases h
  | some g =>
    rw [hg] at h
    simp only [Option.bind_some] at h ⊢
    have hlt : g < w.heap.size := by
      rcases Nat.lt_or_ge g w.heap.size with h1 | h1
      · exact h1
      · rw [Array.getElem?_eq_none h1] at h; cases h
    rw [hb.block g hlt]; exact h

theorem numDigits_any (u : Nat) (h1 : 1 ≤ u) (h2 : u < 18446744073709551616) (w : World) (htab : Tab w) :
    Calls Tryd.prog 18 #[.int .u64 u] w fun e w' => e = .returned (.int .i64 (Lib.nDigits u)) ∧ w' = w := Any.internal_strconv_numDigits Tryd.laysM284 u h1 h2 w htab
theorem holds0 (w : World) (nd : Nat) (hs : nd ≤ 24) : Holds (fun (b : UInt8) => Value.int .u8 (b.toNat : Int)) (w.alloc (.cells Lib.zeros24 39)) w.heap.size 0 (Array.replicate nd (0 : UInt8)) := fun j hj => by
  have hj' : j < nd := by simpa using hj
  refine ⟨?_, World.frozen?_alloc_new _ _ _ _⟩
  rw [World.cell?_alloc_new, Lib.zeros24_at _ (by omega), getElem!_pos _ j hj]
  simp
theorem below_put (w : World) (o : Obj) (dk : Array UInt8) (k : Nat) : Below w.heap.size w ((putRow (fun (b : UInt8) => Value.int .u8 (b.toNat : Int)) (w.alloc o) w.heap.size 0 dk).drewN k) := by
  rw [alloc_eq_grow]
  obtain ⟨os', _, e⟩ := putRow_grow_new (fun (b : UInt8) => Value.int .u8 (b.toNat : Int)) w #[o] w.heap.size 0 dk (Nat.le_refl _)
  rw [e]
  refine ⟨rfl, rfl, rfl, by simp [grow], fun j hj => ?_⟩
  show (w.heap ++ os')[j]? = w.heap[j]?
  rw [Array.getElem?_append_left hj]

set_option maxHeartbeats 1600000 in
set_option maxRecDepth 100000 in
theorem formatUint_any (u : Nat) (hu64 : u < 18446744073709551616) (w : World) (htab : Tab w) :
    Calls Tryd.prog 16 #[.int .u64 u, .int .i64 10] w fun e w' => e = .returned (.string ⟨(Lib.decDigits u).toArray⟩) ∧ Below w.heap.size w w' := by
  by_cases hs : u < 100
  · go_enter Tryd.func16, Tryd.ntmps16
    go_wp2_with (go_at_call 17; refine (Tryd.internal_strconv_small u hs _).mono ?_; rintro e w' ⟨rfl, rfl⟩)
    go_ret
    exact ⟨rfl, Below.refl _ _⟩
  · have hu1 : 1 ≤ u := by omega
    have hnd20 : Lib.nDigits u ≤ 20 := Lib.nDigits_le20 u hu64
    have hal : Tryd.prog.arrayLen 39 = 24 := by kernel_rfl
    have hel : Tryd.prog.elem 39 = 5 := by kernel_rfl
    have hsl : ∀ W, (Instr.sliceAt 39 (.pointer (some ⟨w.heap.size, 0, none⟩)) none (some (.int .i64 (Lib.nDigits u : Int))) none).run Tryd.prog W = .ok (.slice (some ⟨w.heap.size, 0, none⟩) (Lib.nDigits u) 24) W := fun W => by
      have hz : Sem.run Tryd.prog (sizeOf 5) W = .ok 1 W := by kernel_rfl
      rw [run_sliceAt_array_h W 39 ⟨w.heap.size, 0, none⟩ (by rw [hal, hel]; exact Tryd.underlying39) .i64 (Lib.nDigits u : Int) (by omega) (by rw [hal]; omega), hal, hel, hz]
      simp [Result.andThen, slicedAt, Addr.add]
    have hH0 := holds0 w (Lib.nDigits u) (by omega)
    have hfmt := Tryd.internal_strconv_formatBase10 w.heap.size 0 24 u (Array.replicate (Lib.nDigits u) 0) (w.alloc (.cells Lib.zeros24 39)) hH0 (by rw [Array.size_replicate]; exact Lib.lt_pow_nDigits u) hu64 (by rw [Array.size_replicate]; omega)
    rw [Array.size_replicate] at hfmt
    have HH0 := hid hH0
    clear hH0 hal hel
    go_enter Tryd.func16, Tryd.ntmps16
    go_wp2_with (go_at_call 18; refine (numDigits_any u hu1 hu64 _ (Tab.alloc htab _)).mono ?_; rintro e w' ⟨rfl, rfl⟩)
    go_at_call 19
    refine hfmt.mono ?_
    rintro e w' ⟨rfl, k, v', dk, rfl, hF⟩
    have hcv : (convert 42 9 (.slice (some ⟨w.heap.size, 0, none⟩) (Lib.nDigits u) 24)).run Tryd.prog ((putRow (fun (b : UInt8) => Value.int .u8 (b.toNat : Int)) (w.alloc (.cells Lib.zeros24 39)) w.heap.size 0 dk).drewN k) = .ok (.string ⟨(Lib.decDigits u).toArray⟩) ((putRow (fun (b : UInt8) => Value.int .u8 (b.toNat : Int)) (w.alloc (.cells Lib.zeros24 39)) w.heap.size 0 dk).drewN k) := by
      have h := run_convert_bytes_back (P := Tryd.prog) ((putRow (fun (b : UInt8) => Value.int .u8 (b.toNat : Int)) (w.alloc (.cells Lib.zeros24 39)) w.heap.size 0 dk).drewN k) 42 9 5 ⟨w.heap.size, 0, none⟩ 24 (Lib.decDigits u) Tryd.underlying42 Tryd.underlying5 Tryd.underlying9 (fun j hj => by
        rw [Lib.row_is_numeral hF j hj, Lib.add_plain, World.cell?_drewN]
        exact cell?_putRow (fun (b : UInt8) => Value.int .u8 (b.toNat : Int)) _ w.heap.size 0 _ dk HH0.out (by rw [hF.size, Array.size_replicate]) j (by rw [hF.size]; rw [Lib.decDigits_length] at hj; exact hj))
      rw [Lib.decDigits_length] at h
      exact h
    have HB := hid (below_put w (.cells Lib.zeros24 39) dk k)
    go_wp2
    go_ret
    exact ⟨rfl, HB.out⟩

theorem format_any (u : Nat) (hu64 : u < 18446744073709551616) (w : World) (htab : Tab w) :
    Calls Tryd.prog 15 #[.int .u64 u, .int .i64 10] w fun e w' => e = .returned (.string ⟨(Lib.decDigits u).toArray⟩) ∧ Below w.heap.size w w' := by
  go_enter Tryd.func15, Tryd.ntmps15
  go_wp2_with fail
  refine (formatUint_any u hu64 w htab).mono ?_
  rintro e w1 ⟨rfl, hb⟩
  go_wp2
  go_ret
  exact ⟨rfl, hb⟩
/-- 'checkpoint.' and 'log.'. -/
def cpB : List UInt8 := [99, 104, 101, 99, 107, 112, 111, 105, 110, 116, 46]
def sgB : List UInt8 := [108, 111, 103, 46]
def cpN (u : Nat) : ByteArray := ⟨(cpB ++ Lib.decDigits u).toArray⟩
def sgN (u : Nat) : ByteArray := ⟨(sgB ++ Lib.decDigits u).toArray⟩
theorem cpN_app (u : Nat) : (⟨#[99, 104, 101, 99, 107, 112, 111, 105, 110, 116, 46]⟩ : ByteArray) ++ ⟨(Lib.decDigits u).toArray⟩ = cpN u := by
  apply ByteArray.ext
  show _ = (cpB ++ Lib.decDigits u).toArray
  simp [cpB]
theorem sgN_app (u : Nat) : (⟨#[108, 111, 103, 46]⟩ : ByteArray) ++ ⟨(Lib.decDigits u).toArray⟩ = sgN u := by
  apply ByteArray.ext
  show _ = (sgB ++ Lib.decDigits u).toArray
  simp [sgB]
theorem checkpointName_any (u : Nat) (hu64 : u < 18446744073709551616) (w : World) (htab : Tab w) :
    Calls Tryd.prog 13 #[.int .u64 u] w fun e w' => e = .returned (.string (cpN u)) ∧ Below w.heap.size w w' := by
  have hl := Lib.nDigits_le20 u hu64
  rw [← Lib.decDigits_length] at hl
  have E := hid (cpN_app u)
  go_enter Tryd.func13, Tryd.ntmps13
  go_wp2_with fail
  refine (format_any u hu64 w htab).mono ?_
  rintro e w1 ⟨rfl, hb⟩
  go_wp2
  go_ret
  exact ⟨by rw [← E.out]; rfl, hb⟩
theorem segmentName_any (u : Nat) (hu64 : u < 18446744073709551616) (w : World) (htab : Tab w) :
    Calls Tryd.prog 14 #[.int .u64 u] w fun e w' => e = .returned (.string (sgN u)) ∧ Below w.heap.size w w' := by
  have hl := Lib.nDigits_le20 u hu64
  rw [← Lib.decDigits_length] at hl
  have E := hid (sgN_app u)
  go_enter Tryd.func14, Tryd.ntmps14
  go_wp2_with fail
  refine (format_any u hu64 w htab).mono ?_
  rintro e w1 ⟨rfl, hb⟩
  go_wp2
  go_ret
  exact ⟨by rw [← E.out]; rfl, hb⟩
end Go.Proofs.Qxb6003783aDoor.Fmt
