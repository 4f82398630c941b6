/-
  DERIVED. GIVEN WITH THE SEED: THE CARDS: each row of Qxb6003783aDoorRows.lean that lists a variable, with what it lists TIED to the program's text (the seventh form; the later family's looks); each row that meets fmt, with fmt's text TOLD by the authors' own Lean function (tested against real Go, not proved from fmt's source: count such statements apart). THE CARD IS WHAT COUNTS. Prove the row's statement (the work); the ties are given (Qxb6003783aDoorTie.lean); close each card by the builder's one call (the guide's Derived/Test/ToyasCard.lean, 'card_holds'). Laid BY PROGRAM, IN A SANDBOX (cutbox-door.mjs). By AI agents, Wed Nov 11 2026. No macro, syntax, notation, axiom, sorry.
-/
import Derived.Test.Qxb6003783aDoorRows
import GoSem.ClaimSeven
namespace Go.Proofs.Qxb6003783aDoor
namespace Rows

/-- THE TIED CARD OF 'zzlaws_internal_disk_g1.FnStaleFilesGrowWithCheckpoint'. -/
def fnStaleFilesGrowWithCheckpointCard : Claim7 := { stood := { row := fnStaleFilesGrowWithCheckpointRow, standIns := [], harness := (true, "4c6f71d2165f6eed376de08f388341ee3cd98eddacf255d8e4236d8466be38d1"), looks := false }, kinds := [], alts := [], laidByText := true, laidKinds := [.data, .data, .data], laidTests := true, laidLooks := .later }
def FnStaleFilesGrowWithCheckpointCardSaid : Prop := Claim7.holds Tryd.pinned (.plain (OpenSpec.ofChange fnStaleFilesGrowWithCheckpointSpec)) fnStaleFilesGrowWithCheckpointCard
end Rows
end Go.Proofs.Qxb6003783aDoor
