/-
  No cell of these rows narrows 'for every input' (looked for: loops, veiled, ifaces, maps, wideKeys, modest, calm, conditions, laid).
  DERIVED. THE GIVEN ROWS OF THIS SEAT. 4 by the template 'for every input the law returns true; each argument reads behind the call as it read before'; 0 by the template 'total and deterministic' (their statements: Qxb6003729aTotals.lean).
  GIVEN WITH THE SEED: the statements are not yours to turn. If you find one false, say at which input.
  Laid BY PROGRAM, IN A SANDBOX (cutbox-rows.mjs): the forced cells as the released guide's own fill.sh prints them over the translation 1e1d7deee6bd4f4a… (all of the seat's roots in one cut). By AI agents, Wed Nov 11 2026. No macro, syntax, notation, axiom, sorry.
-/
import Derived.Test.Qxb6003729aChecked
import GoSem.Claim
import GoSem.ClaimJoined
import GoSem.ClaimMapViews
import Derived.JoinedTies
import Derived.KernelRfl
namespace Go.Proofs.Qxb6003729a
/- THE CELL 'sum', in the pinned program and in every row, IS THE sha256 OF THE DUMP (.gsa) THAT Qxb6003729aProg.lean LOADS. Nothing in Lean hashes anything: it is a label: what it is worth is what the hold of that sum in a sandbox is worth. -/
noncomputable def Try.pinned : Pinned := { name := "qxb6003729a", sum := "1e1d7deee6bd4f4a325350b1d1f25c85cc9c8c6f605665ff501f181954e729be", checked := Try.checked }
namespace Rows
def none {H : Type} : Left H := { results := [], args := [] }

/-- 'zzlaws_internal_state_g1.FnNestingArrayWrapAddsOne': WHATEVER THE INPUT: true; the input reads as it did. -/
def fnNestingArrayWrapAddsOneSpec : ChangeSpec := { name := "fnNestingArrayWrapAddsOne", fn := fun _ => fun
  | [d] => { results := [.lit (.bool true)], args := [d] }
  | _ => none }
def fnNestingArrayWrapAddsOneRow : OpenClaim := { program := "qxb6003729a", sum := "1e1d7deee6bd4f4a325350b1d1f25c85cc9c8c6f605665ff501f181954e729be", func := "example.com/cairn/cairn/zzlaws_internal_state_g1.FnNestingArrayWrapAddsOne", spec := "fnNestingArrayWrapAddsOne", apart := false }
def FnNestingArrayWrapAddsOneSaid : Prop := fnNestingArrayWrapAddsOneRow.holds Try.pinned (OpenSpec.ofChange fnNestingArrayWrapAddsOneSpec)

/-- ITS FALSE NEIGHBOUR: 'it returns false'. Refute it at one input. -/
def fnNestingArrayWrapAddsOneWrong : ChangeSpec := { name := "fnNestingArrayWrapAddsOne", fn := fun _ => fun
  | [d] => { results := [.lit (.bool false)], args := [d] }
  | _ => none }
def FnNestingArrayWrapAddsOneWrongFalsely : Prop := fnNestingArrayWrapAddsOneRow.holds Try.pinned (OpenSpec.ofChange fnNestingArrayWrapAddsOneWrong)

/-- 'zzlaws_internal_state_g1.FnNumberReadsLongestNumberOrDeclines': WHATEVER THE INPUT: true; the input reads as it did. -/
def fnNumberReadsLongestNumberOrDeclinesSpec : ChangeSpec := { name := "fnNumberReadsLongestNumberOrDeclines", fn := fun _ => fun
  | [d1, d2] => { results := [.lit (.bool true)], args := [d1, d2] }
  | _ => none }
def fnNumberReadsLongestNumberOrDeclinesRow : OpenClaim := { program := "qxb6003729a", sum := "1e1d7deee6bd4f4a325350b1d1f25c85cc9c8c6f605665ff501f181954e729be", func := "example.com/cairn/cairn/zzlaws_internal_state_g1.FnNumberReadsLongestNumberOrDeclines", spec := "fnNumberReadsLongestNumberOrDeclines", apart := false }
def FnNumberReadsLongestNumberOrDeclinesSaid : Prop := fnNumberReadsLongestNumberOrDeclinesRow.holds Try.pinned (OpenSpec.ofChange fnNumberReadsLongestNumberOrDeclinesSpec)

/-- ITS FALSE NEIGHBOUR: 'it returns false'. Refute it at one input. -/
def fnNumberReadsLongestNumberOrDeclinesWrong : ChangeSpec := { name := "fnNumberReadsLongestNumberOrDeclines", fn := fun _ => fun
  | [d1, d2] => { results := [.lit (.bool false)], args := [d1, d2] }
  | _ => none }
def FnNumberReadsLongestNumberOrDeclinesWrongFalsely : Prop := fnNumberReadsLongestNumberOrDeclinesRow.holds Try.pinned (OpenSpec.ofChange fnNumberReadsLongestNumberOrDeclinesWrong)

/-- 'zzlaws_internal_state_g1.FnLaidOutArrayReadsBack': WHATEVER THE INPUT: true; the input reads as it did. -/
def fnLaidOutArrayReadsBackSpec : ChangeSpec := { name := "fnLaidOutArrayReadsBack", fn := fun _ => fun
  | [d1, d2] => { results := [.lit (.bool true)], args := [d1, d2] }
  | _ => none }
def fnLaidOutArrayReadsBackRow : OpenClaim := { program := "qxb6003729a", sum := "1e1d7deee6bd4f4a325350b1d1f25c85cc9c8c6f605665ff501f181954e729be", func := "example.com/cairn/cairn/zzlaws_internal_state_g1.FnLaidOutArrayReadsBack", spec := "fnLaidOutArrayReadsBack", apart := false }
def FnLaidOutArrayReadsBackSaid : Prop := fnLaidOutArrayReadsBackRow.holds Try.pinned (OpenSpec.ofChange fnLaidOutArrayReadsBackSpec)

/-- ITS FALSE NEIGHBOUR: 'it returns false'. Refute it at one input. -/
def fnLaidOutArrayReadsBackWrong : ChangeSpec := { name := "fnLaidOutArrayReadsBack", fn := fun _ => fun
  | [d1, d2] => { results := [.lit (.bool false)], args := [d1, d2] }
  | _ => none }
def FnLaidOutArrayReadsBackWrongFalsely : Prop := fnLaidOutArrayReadsBackRow.holds Try.pinned (OpenSpec.ofChange fnLaidOutArrayReadsBackWrong)

/-- 'zzlaws_internal_state_g1.FnReadyListsExactlyTheReadyTasks': WHATEVER THE INPUT: true; the input reads as it did. -/
def fnReadyListsExactlyTheReadyTasksSpec : ChangeSpec := { name := "fnReadyListsExactlyTheReadyTasks", fn := fun _ => fun
  | [d1, d2] => { results := [.lit (.bool true)], args := [d1, d2] }
  | _ => none }
def fnReadyListsExactlyTheReadyTasksRow : OpenClaim := { program := "qxb6003729a", sum := "1e1d7deee6bd4f4a325350b1d1f25c85cc9c8c6f605665ff501f181954e729be", func := "example.com/cairn/cairn/zzlaws_internal_state_g1.FnReadyListsExactlyTheReadyTasks", spec := "fnReadyListsExactlyTheReadyTasks", recurses := true, apart := false }
def FnReadyListsExactlyTheReadyTasksSaid : Prop := fnReadyListsExactlyTheReadyTasksRow.holds Try.pinned (OpenSpec.ofChange fnReadyListsExactlyTheReadyTasksSpec)

/-- ITS FALSE NEIGHBOUR: 'it returns false'. Refute it at one input. -/
def fnReadyListsExactlyTheReadyTasksWrong : ChangeSpec := { name := "fnReadyListsExactlyTheReadyTasks", fn := fun _ => fun
  | [d1, d2] => { results := [.lit (.bool false)], args := [d1, d2] }
  | _ => none }
def FnReadyListsExactlyTheReadyTasksWrongFalsely : Prop := fnReadyListsExactlyTheReadyTasksRow.holds Try.pinned (OpenSpec.ofChange fnReadyListsExactlyTheReadyTasksWrong)

end Rows
end Go.Proofs.Qxb6003729a
