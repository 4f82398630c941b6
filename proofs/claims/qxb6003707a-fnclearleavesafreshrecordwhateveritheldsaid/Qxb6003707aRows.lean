/-
  No cell of these rows narrows 'for every input' (looked for: loops, veiled, ifaces, maps, wideKeys, modest, calm, conditions, laid).
  DERIVED. THE GIVEN ROWS OF THIS SEAT. 4 by the template 'for every input the law returns true; each argument reads behind the call as it read before'; 0 by the template 'total and deterministic' (their statements: Qxb6003707aTotals.lean).
  GIVEN WITH THE SEED: the statements are not yours to turn. If you find one false, say at which input.
  Laid BY PROGRAM, IN A SANDBOX (cutbox-rows.mjs): the forced cells as the released guide's own fill.sh prints them over the translation 217a20c92348cdf8… (all of the seat's roots in one cut). By AI agents, Wed Nov 11 2026. No macro, syntax, notation, axiom, sorry.
-/
import Derived.Test.Qxb6003707aChecked
import GoSem.Claim
import GoSem.ClaimJoined
import GoSem.ClaimMapViews
import Derived.JoinedTies
import Derived.KernelRfl
namespace Go.Proofs.Qxb6003707a
/- THE CELL 'sum', in the pinned program and in every row, IS THE sha256 OF THE DUMP (.gsa) THAT Qxb6003707aProg.lean LOADS. Nothing in Lean hashes anything: it is a label: what it is worth is what the hold of that sum in a sandbox is worth. -/
noncomputable def Try.pinned : Pinned := { name := "qxb6003707a", sum := "217a20c92348cdf867aef451feebcd51aad92b34db5f0cbe80c331b86a4ec6b7", checked := Try.checked }
namespace Rows
def none {H : Type} : Left H := { results := [], args := [] }

/-- 'zzlaws_money_g1.FnStringOfNegationPrefixesMinus': WHATEVER THE INPUT: true; the input reads as it did. -/
def fnStringOfNegationPrefixesMinusSpec : ChangeSpec := { name := "fnStringOfNegationPrefixesMinus", fn := fun _ => fun
  | [d1, d2] => { results := [.lit (.bool true)], args := [d1, d2] }
  | _ => none }
def fnStringOfNegationPrefixesMinusRow : OpenClaim := { program := "qxb6003707a", sum := "217a20c92348cdf867aef451feebcd51aad92b34db5f0cbe80c331b86a4ec6b7", func := "example.com/zhaomu/zhaomu/zzlaws_money_g1.FnStringOfNegationPrefixesMinus", spec := "fnStringOfNegationPrefixesMinus", apart := false }
def FnStringOfNegationPrefixesMinusSaid : Prop := fnStringOfNegationPrefixesMinusRow.holds Try.pinned (OpenSpec.ofChange fnStringOfNegationPrefixesMinusSpec)

/-- ITS FALSE NEIGHBOUR: 'it returns false'. Refute it at one input. -/
def fnStringOfNegationPrefixesMinusWrong : ChangeSpec := { name := "fnStringOfNegationPrefixesMinus", fn := fun _ => fun
  | [d1, d2] => { results := [.lit (.bool false)], args := [d1, d2] }
  | _ => none }
def FnStringOfNegationPrefixesMinusWrongFalsely : Prop := fnStringOfNegationPrefixesMinusRow.holds Try.pinned (OpenSpec.ofChange fnStringOfNegationPrefixesMinusWrong)

/-- 'zzlaws_money_g1.FnMagnitudeEvenAndMonotone': WHATEVER THE INPUT: true; the input reads as it did. -/
def fnMagnitudeEvenAndMonotoneSpec : ChangeSpec := { name := "fnMagnitudeEvenAndMonotone", fn := fun _ => fun
  | [d1, d2] => { results := [.lit (.bool true)], args := [d1, d2] }
  | _ => none }
def fnMagnitudeEvenAndMonotoneRow : OpenClaim := { program := "qxb6003707a", sum := "217a20c92348cdf867aef451feebcd51aad92b34db5f0cbe80c331b86a4ec6b7", func := "example.com/zhaomu/zhaomu/zzlaws_money_g1.FnMagnitudeEvenAndMonotone", spec := "fnMagnitudeEvenAndMonotone", apart := false }
def FnMagnitudeEvenAndMonotoneSaid : Prop := fnMagnitudeEvenAndMonotoneRow.holds Try.pinned (OpenSpec.ofChange fnMagnitudeEvenAndMonotoneSpec)

/-- ITS FALSE NEIGHBOUR: 'it returns false'. Refute it at one input. -/
def fnMagnitudeEvenAndMonotoneWrong : ChangeSpec := { name := "fnMagnitudeEvenAndMonotone", fn := fun _ => fun
  | [d1, d2] => { results := [.lit (.bool false)], args := [d1, d2] }
  | _ => none }
def FnMagnitudeEvenAndMonotoneWrongFalsely : Prop := fnMagnitudeEvenAndMonotoneRow.holds Try.pinned (OpenSpec.ofChange fnMagnitudeEvenAndMonotoneWrong)

/-- 'zzlaws_ofd_g1.FnLayoutHasExactlyItsFieldNames': WHATEVER THE INPUT: true; the input reads as it did. -/
def fnLayoutHasExactlyItsFieldNamesSpec : ChangeSpec := { name := "fnLayoutHasExactlyItsFieldNames", fn := fun _ => fun
  | [d1, d2, d3] => { results := [.lit (.bool true)], args := [d1, d2, d3] }
  | _ => none }
def fnLayoutHasExactlyItsFieldNamesRow : OpenClaim := { program := "qxb6003707a", sum := "217a20c92348cdf867aef451feebcd51aad92b34db5f0cbe80c331b86a4ec6b7", func := "example.com/zhaomu/zhaomu/zzlaws_ofd_g1.FnLayoutHasExactlyItsFieldNames", spec := "fnLayoutHasExactlyItsFieldNames", apart := false }
def FnLayoutHasExactlyItsFieldNamesSaid : Prop := fnLayoutHasExactlyItsFieldNamesRow.holds Try.pinned (OpenSpec.ofChange fnLayoutHasExactlyItsFieldNamesSpec)

/-- ITS FALSE NEIGHBOUR: 'it returns false'. Refute it at one input. -/
def fnLayoutHasExactlyItsFieldNamesWrong : ChangeSpec := { name := "fnLayoutHasExactlyItsFieldNames", fn := fun _ => fun
  | [d1, d2, d3] => { results := [.lit (.bool false)], args := [d1, d2, d3] }
  | _ => none }
def FnLayoutHasExactlyItsFieldNamesWrongFalsely : Prop := fnLayoutHasExactlyItsFieldNamesRow.holds Try.pinned (OpenSpec.ofChange fnLayoutHasExactlyItsFieldNamesWrong)

/-- 'zzlaws_ofd_g1.FnClearLeavesAFreshRecordWhateverItHeld': WHATEVER THE INPUT: true; the input reads as it did. -/
def fnClearLeavesAFreshRecordWhateverItHeldSpec : ChangeSpec := { name := "fnClearLeavesAFreshRecordWhateverItHeld", fn := fun _ => fun
  | [d1, d2, d3] => { results := [.lit (.bool true)], args := [d1, d2, d3] }
  | _ => none }
def fnClearLeavesAFreshRecordWhateverItHeldRow : OpenClaim := { program := "qxb6003707a", sum := "217a20c92348cdf867aef451feebcd51aad92b34db5f0cbe80c331b86a4ec6b7", func := "example.com/zhaomu/zhaomu/zzlaws_ofd_g1.FnClearLeavesAFreshRecordWhateverItHeld", spec := "fnClearLeavesAFreshRecordWhateverItHeld", apart := false }
def FnClearLeavesAFreshRecordWhateverItHeldSaid : Prop := fnClearLeavesAFreshRecordWhateverItHeldRow.holds Try.pinned (OpenSpec.ofChange fnClearLeavesAFreshRecordWhateverItHeldSpec)

/-- ITS FALSE NEIGHBOUR: 'it returns false'. Refute it at one input. -/
def fnClearLeavesAFreshRecordWhateverItHeldWrong : ChangeSpec := { name := "fnClearLeavesAFreshRecordWhateverItHeld", fn := fun _ => fun
  | [d1, d2, d3] => { results := [.lit (.bool false)], args := [d1, d2, d3] }
  | _ => none }
def FnClearLeavesAFreshRecordWhateverItHeldWrongFalsely : Prop := fnClearLeavesAFreshRecordWhateverItHeldRow.holds Try.pinned (OpenSpec.ofChange fnClearLeavesAFreshRecordWhateverItHeldWrong)

end Rows
end Go.Proofs.Qxb6003707a
