/-
  No cell of these rows narrows 'for every input' (looked for: loops, veiled, ifaces, maps, wideKeys, modest, calm, conditions, laid).
  DERIVED. THE GIVEN ROWS OF THIS SEAT. 2 by the template 'for every input the law returns true; each argument reads behind the call as it read before'; 0 by the template 'total and deterministic' (their statements: Qxb6003783aTotals.lean).
  GIVEN WITH THE SEED: the statements are not yours to turn. If you find one false, say at which input.
  Laid BY PROGRAM, IN A SANDBOX (cutbox-rows.mjs): the forced cells as the released guide's own fill.sh prints them over the translation f2e557c8822324c5… (all of the seat's roots in one cut). By AI agents, Wed Nov 11 2026. No macro, syntax, notation, axiom, sorry.
-/
import Derived.Test.Qxb6003783aChecked
import GoSem.Claim
import GoSem.ClaimJoined
import GoSem.ClaimMapViews
import Derived.JoinedTies
import Derived.KernelRfl
namespace Go.Proofs.Qxb6003783a
/- THE CELL 'sum', in the pinned program and in every row, IS THE sha256 OF THE DUMP (.gsa) THAT Qxb6003783aProg.lean LOADS. Nothing in Lean hashes anything: it is a label: what it is worth is what the hold of that sum in a sandbox is worth. -/
noncomputable def Try.pinned : Pinned := { name := "qxb6003783a", sum := "f2e557c8822324c5b03c3110e3458f1b9f02b6121c40f2e3a05e63b3cc04eb29", checked := Try.checked }
namespace Rows
def none {H : Type} : Left H := { results := [], args := [] }

/-- 'zzlaws_internal_disk_g1.FnReadHeadIsSelfDelimiting': WHATEVER THE INPUT: true; the input reads as it did. -/
def fnReadHeadIsSelfDelimitingSpec : ChangeSpec := { name := "fnReadHeadIsSelfDelimiting", fn := fun _ => fun
  | [d1, d2] => { results := [.lit (.bool true)], args := [d1, d2] }
  | _ => none }
def fnReadHeadIsSelfDelimitingRow : OpenClaim := { program := "qxb6003783a", sum := "f2e557c8822324c5b03c3110e3458f1b9f02b6121c40f2e3a05e63b3cc04eb29", func := "example.com/sanguine/sanguine/zzlaws_internal_disk_g1.FnReadHeadIsSelfDelimiting", spec := "fnReadHeadIsSelfDelimiting", apart := false }
def FnReadHeadIsSelfDelimitingSaid : Prop := fnReadHeadIsSelfDelimitingRow.holds Try.pinned (OpenSpec.ofChange fnReadHeadIsSelfDelimitingSpec)

/-- ITS FALSE NEIGHBOUR: 'it returns false'. Refute it at one input. -/
def fnReadHeadIsSelfDelimitingWrong : ChangeSpec := { name := "fnReadHeadIsSelfDelimiting", fn := fun _ => fun
  | [d1, d2] => { results := [.lit (.bool false)], args := [d1, d2] }
  | _ => none }
def FnReadHeadIsSelfDelimitingWrongFalsely : Prop := fnReadHeadIsSelfDelimitingRow.holds Try.pinned (OpenSpec.ofChange fnReadHeadIsSelfDelimitingWrong)

/-- 'zzlaws_internal_disk_g1.FnFieldAtReadsAppendWrite': WHATEVER THE INPUT: true; the input reads as it did. -/
def fnFieldAtReadsAppendWriteSpec : ChangeSpec := { name := "fnFieldAtReadsAppendWrite", fn := fun _ => fun
  | [d1, d2, d3, d4] => { results := [.lit (.bool true)], args := [d1, d2, d3, d4] }
  | _ => none }
def fnFieldAtReadsAppendWriteRow : OpenClaim := { program := "qxb6003783a", sum := "f2e557c8822324c5b03c3110e3458f1b9f02b6121c40f2e3a05e63b3cc04eb29", func := "example.com/sanguine/sanguine/zzlaws_internal_disk_g1.FnFieldAtReadsAppendWrite", spec := "fnFieldAtReadsAppendWrite", apart := false }
def FnFieldAtReadsAppendWriteSaid : Prop := fnFieldAtReadsAppendWriteRow.holds Try.pinned (OpenSpec.ofChange fnFieldAtReadsAppendWriteSpec)

/-- ITS FALSE NEIGHBOUR: 'it returns false'. Refute it at one input. -/
def fnFieldAtReadsAppendWriteWrong : ChangeSpec := { name := "fnFieldAtReadsAppendWrite", fn := fun _ => fun
  | [d1, d2, d3, d4] => { results := [.lit (.bool false)], args := [d1, d2, d3, d4] }
  | _ => none }
def FnFieldAtReadsAppendWriteWrongFalsely : Prop := fnFieldAtReadsAppendWriteRow.holds Try.pinned (OpenSpec.ofChange fnFieldAtReadsAppendWriteWrong)

end Rows
end Go.Proofs.Qxb6003783a
