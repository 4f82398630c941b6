/- The row's frame: the kit's template turned to this function (a slice of strings, a slice of ints, a slice of bytes); the walk lies in the texts Qxb6003707aOfd... -/
import Derived.Test.Qxb6003707aRows
import Derived.Test.Qxb6003707aOfdLaw
import Derived.WalkKit
import Derived.ProofKit
import Derived.OpenShut
import Derived.ShutString
import Derived.ChangeOld
import Derived.Below
import Derived.SliceStrings
namespace Go.Proofs.Qxb6003707a.fnClearLeavesAFreshRecordWhateverItHeld
open Go.ChangeShapes Go.WideShapes Go.ChangeAt Go.RowKit
open Go.ChangeMaps (open_string shut_string)
set_option linter.unusedVariables false

theorem own : ownKnob Try.prog.godebug = none := by kernel_rfl
theorem laidOut : laidOutB Try.prog = true := by kernel_rfl

/-- What 'open_ints' and 'open_strings' give, as the walk asks it. -/
theorem row_of {w : World} {x : Addr} {len n : Nat} {f : Nat → Value} (hl : len ≤ n) (hc : ∀ i, i < n → w.cell? (x.add i) = some (f i)) : Ofd.Row w (some x) len f := by
  rcases Nat.eq_zero_or_pos len with h | h
  · exact Or.inl h
  · have h0 := hc 0 (by omega)
    obtain ⟨b, off, sp⟩ := x
    have hs : sp = none := by
      cases sp with
      | none => rfl
      | some s =>
        exfalso
        simp only [Addr.add, World.cell?] at h0
        split at h0 <;> simp_all
    subst hs
    refine Or.inr ⟨b, off, rfl, fun k hk => ?_⟩
    have := hc k (by omega)
    have e : (⟨b, off, none⟩ : Addr).add k = ⟨b, off + k, none⟩ := by unfold Addr.add; split <;> simp_all
    rw [e] at this; exact this

set_option maxRecDepth 100000 in
theorem lifted (os : Os) (started : os.Started) (H : Type) (enc : TypeId × Value → H) :
    ReturnsInHanded {} Try.checked os 6 .any (Rows.fnClearLeavesAFreshRecordWhateverItHeldSpec.pre6 enc Try.prog Try.f6 Rows.fnClearLeavesAFreshRecordWhateverItHeldRow.domain false) (Rows.fnClearLeavesAFreshRecordWhateverItHeldSpec.post enc Try.prog Try.f6 false true false false) := by
  refine returnsInHanded_of_change (C := Try.checked) own started (by kernel_rfl) Try.func6
    (ChangeSpec.witness6 (enc := enc) (C := Try.checked) false ⟨#[], #[.slice none 0 0, .slice none 0 0, .slice none 0 0], []⟩ 8 (by kernel_rfl) (by kernel_rfl) (by kernel_rfl) (by kernel_rfl)) ?_
  intro W base args ds gs before hval0 hW hcnd _
  have hval : ∀ (j : Nat) t v, Try.f6.params[j]? = some t → args[j]? = some v → Value.okWide Try.prog W .any base t v := hval0
  have hW' := hW
  obtain ⟨p, q, hA0, hV, rfl, hfz, hnd⟩ := hW
  have hA : DataW.TrodAll enc Try.prog W 0 (fun _ => true) true Try.f6.params.toList args.toList ds p := hA0
  rw [Try.params6] at hA hval
  obtain ⟨v0, vs0, d0, ds0, p0, q0, hargs, rfl, rfl, h0, r0⟩ := trodAll_cons hA
  obtain ⟨v1, vs1, d1, ds1, p1, q1, rfl, rfl, rfl, h1, r1⟩ := trodAll_cons r0
  obtain ⟨v2, vs2, d2, ds2, p2, q2, rfl, rfl, rfl, h2, r2⟩ := trodAll_cons r1
  obtain ⟨rfl, rfl, rfl⟩ := trodAll_nil r2
  obtain rfl : args = #[v0, v1, v2] := by cases args; simp_all
  obtain ⟨rfl, rfl⟩ := trodVars_none hV
  obtain ⟨a0, len0, cap0, rfl⟩ := okWide_slice Try.underlying32 (hval 0 32 v0 rfl rfl)
  obtain ⟨a1, len1, cap1, rfl⟩ := okWide_slice Try.underlying33 (hval 1 33 v1 rfl rfl)
  obtain ⟨a2, len2, cap2, rfl⟩ := okWide_slice Try.underlying44 (hval 2 44 v2 rfl rfl)
  have k0 := h0
  have k1 := h1
  have k2 := h2
  have lt0 : ∀ x ∈ p0, x.block < W.heap.size := by obtain ⟨m, hm⟩ := k0; exact DataW.trod_lt m _ _ _ hm
  have lt1 : ∀ x ∈ p1, x.block < W.heap.size := by obtain ⟨m, hm⟩ := k1; exact DataW.trod_lt m _ _ _ hm
  have lt2 : ∀ x ∈ p2, x.block < W.heap.size := by obtain ⟨m, hm⟩ := k2; exact DataW.trod_lt m _ _ _ hm
  obtain ⟨ts, hr0, hl0, hn0, m0⟩ : ∃ ts : List ByteArray, Ofd.Row W a0 len0 (fun k => .string (ts.getD k ByteArray.empty)) ∧ ts.length = len0 ∧ (a0 = none → len0 = 0) ∧ len0 ≤ 9223372036854775807 := by
    obtain ⟨fuel, hf⟩ := h0
    rcases open_strings Try.underlying32 Try.underlying9 (by kernel_rfl) hf with ⟨hcs, _⟩ | ⟨x, l, c, ss, hcs, _, hl, hm, hz, _, hcell, hws⟩
    · simp [Value.cells] at hcs
      obtain ⟨rfl, rfl, rfl⟩ := hcs
      exact ⟨[], Or.inl rfl, rfl, fun _ => rfl, by omega⟩
    · simp [Value.cells] at hcs
      obtain ⟨rfl, rfl, rfl⟩ := hcs
      unfold maxLen at hm
      have hz' : ss.length = cap0 := by simpa using hz
      refine ⟨ss.take len0, row_of (n := len0) (Nat.le_refl _) (fun i hi => ?_), by rw [List.length_take]; omega, (fun h => by cases h), by omega⟩
      rw [hcell i (by omega)]
      simp [List.getD, hi]
  have ints : ∀ (κ : IntKind) (a : Option Addr) (len cap : Nat) (t e : TypeId) (d : DataW H) (p : List MemPlace), Try.prog.underlying t = some (.slice e) → Try.prog.underlying e = some (.int κ) → Try.prog.cellsOf e = 1 →
      DataW.Trod enc Try.prog W 0 (fun _ => true) true t (.slice a len cap) d p →
      ∃ zs : List Int, Ofd.Row W a len (fun k => .int κ (zs.getD k 0)) ∧ zs.length = len ∧ (a = none → len = 0) ∧ len ≤ 9223372036854775807 := by
    intro κ a len cap t e d p ht he hc hk
    obtain ⟨fuel, hf⟩ := hk
    rcases open_ints ht he hc hf with ⟨hcs, _⟩ | ⟨x, l, c, zs, hcs, _, hl, hm, hz, _, hcell, hwz⟩
    · simp [Value.cells] at hcs
      obtain ⟨rfl, rfl, rfl⟩ := hcs
      exact ⟨[], Or.inl rfl, rfl, fun _ => rfl, by omega⟩
    · simp [Value.cells] at hcs
      obtain ⟨rfl, rfl, rfl⟩ := hcs
      unfold maxLen at hm
      have hz' : zs.length = cap := by simpa using hz
      refine ⟨zs.take len, row_of (n := len) (Nat.le_refl _) (fun i hi => ?_), by rw [List.length_take]; omega, (fun h => by cases h), by omega⟩
      rw [hcell i (by omega)]
      simp [List.getD, hi]
  obtain ⟨ws, hr1, hl1, hn1, m1⟩ := ints .i64 a1 len1 cap1 33 3 _ _ Try.underlying33 Try.underlying3 (by kernel_rfl) h1
  obtain ⟨zs, hr2, hl2, hn2, m2⟩ := ints .u8 a2 len2 cap2 44 5 _ _ Try.underlying44 Try.underlying5 (by kernel_rfl) h2
  clear hA0 hval0
  refine (Ofd.law_any a0 a1 a2 len0 cap0 len1 cap1 len2 cap2 ts ws zs W hr0 hr1 hr2 hl0 hl1 hn0 hn1 hn2 m0 m1 m2).mono fun e W' ⟨he, bel⟩ => ?_
  subst he
  exact ⟨_, rfl, _, _, _, [], _, [], hW', trodAll_mk1 (shut_bool Try.underlying4 _), (trodAll_cons_mk (Below.trod laidOut (by kernel_rfl) (of_decide_eq_true (by kernel_rfl)) k0 bel lt0) (trodAll_cons_mk (Below.trod laidOut (by kernel_rfl) (of_decide_eq_true (by kernel_rfl)) k1 bel lt1) (trodAll_cons_mk (Below.trod laidOut (by kernel_rfl) (of_decide_eq_true (by kernel_rfl)) k2 bel lt2) trodAll_mk0))), rfl, bel.frame _, fun h => by cases h⟩

theorem over : Rows.fnClearLeavesAFreshRecordWhateverItHeldRow.holds Try.pinned (OpenSpec.ofChange Rows.fnClearLeavesAFreshRecordWhateverItHeldSpec) :=
  OpenClaim.holds_of_wide 6 Try.f6 rfl rfl rfl rfl rfl rfl rfl ⟨rfl, rfl, rfl, rfl, rfl⟩ rfl rfl rfl rfl rfl (by kernel_rfl) Try.func6 (by kernel_rfl)
    (of_decide_eq_true (by kernel_rfl)) (by unfold Func.isWrapper; first | (rw [if_pos (by decide +kernel)]; kernel_rfl) | (rw [if_neg (by decide +kernel)]; exact ⟨rfl, rfl⟩))
    (fun os started H enc _ => lifted os started H enc)

/-- ████ THE STATEMENT ████ -/
theorem proved : Rows.FnClearLeavesAFreshRecordWhateverItHeldSaid := over
end Go.Proofs.Qxb6003707a.fnClearLeavesAFreshRecordWhateverItHeld
