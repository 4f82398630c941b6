/- The row's frame, after the kit's worked texts for a row that lists variables; the walk lies in the texts Qxb6003783aDoor... The card is closed by the builder's one call. -/
import Derived.Test.Qxb6003783aDoorTie
import Derived.Test.Qxb6003783aDoorCards
import Derived.Test.Qxb6003783aDoorLaw
import Derived.Lib.LaidTab
import Derived.ProofKit
import Derived.LaidMore
import Derived.OpenShut
import Derived.ShutString
import Derived.Stop.Joined
import Derived.Stop.LaidErr
import Derived.ChangeOld
import Derived.Below
import Derived.SliceStrings
import Derived.SevenTiedAt
namespace Go.Proofs.Qxb6003783aDoor.fnStaleFilesGrowWithCheckpoint
open Go.ChangeShapes Go.WideShapes Go.ChangeAt Go.RowKit
set_option linter.unusedVariables false

theorem own : ownKnob Tryd.prog.godebug = none := by kernel_rfl
theorem laidOut : laidOutB Tryd.prog = true := by kernel_rfl
/-- What the row lists. -/
def lst : List (String × DataW Unit) := Rows.fnStaleFilesGrowWithCheckpointRow.laid

/-- The heap that the door's own run leaves meets the condition. -/
theorem door_met (os : Os) (args : Array Value) : laidMetH Tryd.prog lst ((World.doorLaid Tryd.prog 400 os).forCall (fun _ _ => 0) ⟨#[], args, []⟩).memory :=
  laidMetH_of_parts3 (fuel := 65) (laidMet_of_run' 65 (by kernel_rfl) (by kernel_rfl)) (by kernel_rfl) (by kernel_rfl)

/-- What the condition gives the walk: the table of the powers of ten. -/
theorem of_laid {W : World} (h : laidMetH Tryd.prog lst W) : Fmt.Tab W := by
  rw [MakeChecks.laidMetH_plain _ _ _ (by kernel_rfl)] at h
  have h3 := h.tail.tail
  exact Lib.tabIs_of_head (g := 0) (t := 47) (e := 24) (n := 20) (zs := Lib.pow10Tab) (by kernel_rfl) (by kernel_rfl) Tryd.underlying47 Tryd.underlying24 (by kernel_rfl) (by kernel_rfl) h3

theorem u64_nat {z : Int} (h : (Lit.int .u64 z).wf = true) : 0 ≤ z ∧ z < 18446744073709551616 := by
  have h' : (decide (IntKind.u64.min ≤ z) && decide (z ≤ IntKind.u64.max)) = true := h
  have e1 : IntKind.u64.min = 0 := by decide
  have e2 : IntKind.u64.max = 18446744073709551615 := by decide
  rw [e1, e2] at h'
  simp at h'
  omega

set_option maxRecDepth 100000 in
theorem lifted (os : Os) (started : os.Started) (H : Type) (enc : TypeId × Value → H) :
    ReturnsInHanded {} Tryd.checked os 3 .any (fun w args => (Rows.fnStaleFilesGrowWithCheckpointSpec.pre enc Tryd.prog Tryd.f3 [] false w args ∧ laidMetH Tryd.prog lst w) ∧ sizedMet enc Tryd.prog Tryd.f3 (OpenSpec.ofChange Rows.fnStaleFilesGrowWithCheckpointSpec) false w args)
      (Rows.fnStaleFilesGrowWithCheckpointSpec.post enc Tryd.prog Tryd.f3 false true false false) := by
  refine returnsInHanded_of_change_and (C := Tryd.checked) (X := fun w _ => laidMetH Tryd.prog lst w) (fun _ _ _ hh h => h.of_heap hh) own started (by kernel_rfl) Tryd.func3
    (ChangeSpec.witness_shaped (enc := enc) (C := Tryd.checked) (os := os) (X := fun w _ => laidMetH Tryd.prog lst w) false (World.doorLaid Tryd.prog 400 os) #[.slice none 0 0, .slice none 0 0, .slice none 0 0, .bool false, .int .u64 0, .int .u64 0, .int .u64 0, .int .u64 0] 65 rfl (World.shaped_of_RefB (by kernel_rfl) (by kernel_rfl)) (by kernel_rfl) (by kernel_rfl) (by kernel_rfl) (door_met os _)) ?_
  intro W base args ds gs before hval0 hW _ _ hL _
  have hval : ∀ (j : Nat) t v, Tryd.f3.params[j]? = some t → args[j]? = some v → Value.okWide Tryd.prog W .any base t v := hval0
  have hW' := hW
  obtain ⟨p, q, hA0, hV, rfl, hfz, hnd⟩ := hW
  have hA : DataW.TrodAll enc Tryd.prog W 0 (fun _ => true) true Tryd.f3.params.toList args.toList ds p := hA0
  rw [Tryd.params3] at hA hval
  obtain ⟨v0, vs0, d0, ds0, p0, q0, hargs, rfl, rfl, h0, r0⟩ := trodAll_cons hA
  obtain ⟨v1, vs1, d1, ds1, p1, q1, rfl, rfl, rfl, h1, r1⟩ := trodAll_cons r0
  obtain ⟨v2, vs2, d2, ds2, p2, q2, rfl, rfl, rfl, h2, r2⟩ := trodAll_cons r1
  obtain ⟨v3, vs3, d3, ds3, p3, q3, rfl, rfl, rfl, h3, r3⟩ := trodAll_cons r2
  obtain ⟨v4, vs4, d4, ds4, p4, q4, rfl, rfl, rfl, h4, r4⟩ := trodAll_cons r3
  obtain ⟨v5, vs5, d5, ds5, p5, q5, rfl, rfl, rfl, h5, r5⟩ := trodAll_cons r4
  obtain ⟨v6, vs6, d6, ds6, p6, q6, rfl, rfl, rfl, h6, r6⟩ := trodAll_cons r5
  obtain ⟨v7, vs7, d7, ds7, p7, q7, rfl, rfl, rfl, h7, r7⟩ := trodAll_cons r6
  obtain ⟨rfl, rfl, rfl⟩ := trodAll_nil r7
  obtain rfl : args = #[v0, v1, v2, v3, v4, v5, v6, v7] := by cases args; simp_all
  obtain ⟨rfl, rfl⟩ := trodVars_none hV
  have htab := of_laid hL
  obtain ⟨a0, len0, cap0, rfl⟩ := okWide_slice Tryd.underlying22 (hval 0 22 v0 rfl rfl)
  obtain ⟨a1, len1, cap1, rfl⟩ := okWide_slice Tryd.underlying22 (hval 1 22 v1 rfl rfl)
  obtain ⟨a2, len2, cap2, rfl⟩ := okWide_slice Tryd.underlying23 (hval 2 23 v2 rfl rfl)
  have k0 := h0
  have k1 := h1
  have k2 := h2
  have lt0 : ∀ x ∈ p0, x.block < W.heap.size := by obtain ⟨m, hm⟩ := k0; exact DataW.trod_lt m _ _ _ hm
  have lt1 : ∀ x ∈ p1, x.block < W.heap.size := by obtain ⟨m, hm⟩ := k1; exact DataW.trod_lt m _ _ _ hm
  have lt2 : ∀ x ∈ p2, x.block < W.heap.size := by obtain ⟨m, hm⟩ := k2; exact DataW.trod_lt m _ _ _ hm
  obtain ⟨b3, rfl, rfl, rfl⟩ := open_bool Tryd.underlying4 (hval 3 4 v3 rfl rfl) h3
  obtain ⟨z4, rfl, rfl, rfl, w4⟩ := open_int Tryd.underlying24 (hval 4 24 v4 rfl rfl) h4
  obtain ⟨z5, rfl, rfl, rfl, w5⟩ := open_int Tryd.underlying24 (hval 5 24 v5 rfl rfl) h5
  obtain ⟨z6, rfl, rfl, rfl, w6⟩ := open_int Tryd.underlying24 (hval 6 24 v6 rfl rfl) h6
  obtain ⟨z7, rfl, rfl, rfl, w7⟩ := open_int Tryd.underlying24 (hval 7 24 v7 rfl rfl) h7
  obtain ⟨un, hr2, hl2, hn2, m2⟩ : ∃ ts : List ByteArray, Mem.Row W a2 len2 (fun k => .string (ts.getD k ByteArray.empty)) ∧ ts.length = len2 ∧ (a2 = none → len2 = 0) ∧ len2 ≤ 9223372036854775807 := by
    obtain ⟨fuel, hf⟩ := h2
    rcases open_strings Tryd.underlying23 Tryd.underlying9 (by kernel_rfl) hf with ⟨hcs, _⟩ | ⟨x, l, c, ss, hcs, _, hl, hm, hz, _, hcell, hws⟩
    · simp [Value.cells] at hcs
      obtain ⟨rfl, rfl, rfl⟩ := hcs
      exact ⟨[], Or.inl rfl, rfl, fun _ => rfl, by omega⟩
    · simp [Value.cells] at hcs
      obtain ⟨rfl, rfl, rfl⟩ := hcs
      unfold maxLen at hm
      have hz' : ss.length = cap2 := by simpa using hz
      refine ⟨ss.take len2, Mem.row_of (n := len2) (Nat.le_refl _) (fun i hi => ?_), by rw [List.length_take]; omega, (fun h => by cases h), by omega⟩
      rw [hcell i (by omega)]
      simp [List.getD, hi]
  have ints : ∀ (a : Option Addr) (len cap : Nat) (d : DataW H) (p : List MemPlace), DataW.Trod enc Tryd.prog W 0 (fun _ => true) true 22 (.slice a len cap) d p →
      ∃ us : List Nat, Mem.Row W a len (fun k => .int .u64 (us.getD k 0 : Nat)) ∧ us.length = len ∧ (∀ u ∈ us, u < 18446744073709551616) ∧ (a = none → len = 0) ∧ len ≤ 9223372036854775807 := by
    intro a len cap d p hk
    obtain ⟨fuel, hf⟩ := hk
    rcases open_ints Tryd.underlying22 Tryd.underlying24 (by kernel_rfl) hf with ⟨hcs, _⟩ | ⟨x, l, c, zs, hcs, _, hl, hm, hz, _, hcell, hwz⟩
    · simp [Value.cells] at hcs
      obtain ⟨rfl, rfl, rfl⟩ := hcs
      exact ⟨[], Or.inl rfl, rfl, (fun u hu => by cases hu), fun _ => rfl, by omega⟩
    · simp [Value.cells] at hcs
      obtain ⟨rfl, rfl, rfl⟩ := hcs
      unfold maxLen at hm
      have hz' : zs.length = cap := by simpa using hz
      refine ⟨(zs.take len).map Int.toNat, Mem.row_of (n := len) (Nat.le_refl _) (fun i hi => ?_), by rw [List.length_map, List.length_take]; omega, fun u hu => ?_, (fun h => by cases h), by omega⟩
      · rw [hcell i (by omega)]
        have hil : i < zs.length := by omega
        have hb := u64_nat (hwz zs[i] (List.getElem_mem hil))
        simp [List.getD, hi, List.getElem?_eq_getElem hil]
        omega
      · simp only [List.mem_map] at hu
        obtain ⟨z, hz1, rfl⟩ := hu
        have hb := u64_nat (hwz z (List.mem_of_mem_take hz1))
        omega
  obtain ⟨ss, hr0, hl0, hb0, hn0, m0⟩ := ints a0 len0 cap0 _ _ h0
  obtain ⟨cs, hr1, hl1, hb1, hn1, m1⟩ := ints a1 len1 cap1 _ _ h1
  have x4 := u64_nat w4
  have x5 := u64_nat w5
  have x6 := u64_nat w6
  have x7 := u64_nat w7
  obtain ⟨c1, rfl⟩ : ∃ n : Nat, z4 = n := ⟨z4.toNat, by omega⟩
  obtain ⟨s1, rfl⟩ : ∃ n : Nat, z5 = n := ⟨z5.toNat, by omega⟩
  obtain ⟨c2, rfl⟩ : ∃ n : Nat, z6 = n := ⟨z6.toNat, by omega⟩
  obtain ⟨s2, rfl⟩ : ∃ n : Nat, z7 = n := ⟨z7.toNat, by omega⟩
  clear hA0 hval0
  refine (Stale.law_any a0 a1 a2 len0 len1 len2 cap0 cap1 cap2 ss cs un b3 c1 s1 c2 s2 W htab (by omega) (by omega) (by omega) (by omega) hr0 hl0 hb0 hn0 hr1 hl1 hb1 hn1 hr2 hl2 hn2 m0 m1 m2).mono fun e W' ⟨he, bel⟩ => ?_
  subst he
  exact ⟨_, rfl, _, _, _, [], _, [], hW', trodAll_mk1 (shut_bool Tryd.underlying4 _), (trodAll_cons_mk (Below.trod laidOut (by kernel_rfl) (of_decide_eq_true (by kernel_rfl)) k0 bel lt0) (trodAll_cons_mk (Below.trod laidOut (by kernel_rfl) (of_decide_eq_true (by kernel_rfl)) k1 bel lt1) (trodAll_cons_mk (Below.trod laidOut (by kernel_rfl) (of_decide_eq_true (by kernel_rfl)) k2 bel lt2) (trodAll_cons_mk (shut_bool Tryd.underlying4 _) (trodAll_cons_mk (shut_int Tryd.underlying24 w4) (trodAll_cons_mk (shut_int Tryd.underlying24 w5) (trodAll_cons_mk (shut_int Tryd.underlying24 w6) (trodAll_cons_mk (shut_int Tryd.underlying24 w7) trodAll_mk0)))))))), rfl, bel.frame _, fun h => by cases h⟩

theorem over : Rows.FnStaleFilesGrowWithCheckpointSaid :=
  OpenClaim.holds_of_wide 3 Tryd.f3 rfl rfl rfl rfl rfl rfl rfl ⟨rfl, rfl, rfl, rfl, rfl⟩ rfl rfl rfl rfl rfl (by kernel_rfl) Tryd.func3 (by kernel_rfl)
    (of_decide_eq_true (by kernel_rfl)) (by unfold Func.isWrapper; first | (rw [if_pos (by decide +kernel)]; kernel_rfl) | (rw [if_neg (by decide +kernel)]; exact ⟨rfl, rfl⟩))
    (fun os started H enc _ => lifted os started H enc)

/-- ████ THE TIED CARD ████ -/
theorem proved : Rows.FnStaleFilesGrowWithCheckpointCardSaid :=
  Claim7.holds_tied_plain_at .later [] [.data, .data, .data] true (true, "4c6f71d2165f6eed376de08f388341ee3cd98eddacf255d8e4236d8466be38d1") false
    over (fun _ h => by cases h) (by kernel_rfl) (fun _ h => by cases h) fnStaleFilesGrowWithCheckpoint_row_tie rfl ⟨rfl, rfl⟩ (by kernel_rfl) rfl
    (fun f fn hf hfn => by
      obtain rfl : f = 3 := Option.some.inj ((show Tryd.prog.funcNamed Rows.fnStaleFilesGrowWithCheckpointRow.func = some 3 by kernel_rfl).symm.trans hf) |>.symm
      obtain rfl : fn = Tryd.f3 := (Option.some.inj (Tryd.func3.symm.trans hfn)).symm
      exact ⟨by kernel_rfl, fun j t ht => by
        rw [Tryd.params3] at ht
        have hm : t ∈ [22, 22, 23, 4, 24, 24, 24, 24] := by simpa using Array.mem_of_getElem? ht
        have hall : ([22, 22, 23, 4, 24, 24, 24, 24].all fun u => !Tryd.prog.wantsStandIn u) = true := by kernel_rfl
        exact (show Tryd.prog.wantsStandIn t = false by simpa using List.all_eq_true.1 hall t hm)⟩)
    (by kernel_rfl)
end Go.Proofs.Qxb6003783aDoor.fnStaleFilesGrowWithCheckpoint
