/-
  DERIVED. GIVEN WITH THE SEED: THE CARDS: each row of YbulkdammDoorRows.lean that lists a variable, with what it lists TIED to the program's text (the seventh form; the later family's looks); each row that meets fmt, with fmt's text TOLD by the authors' own Lean function (tested against real Go, not proved from fmt's source: count such statements apart). THE CARD IS WHAT COUNTS. Prove the row's statement (the work); the ties are given (YbulkdammDoorTie.lean); close each card by the builder's one call (the guide's Derived/Test/ToyasCard.lean, 'card_holds'). Laid BY PROGRAM, IN A SANDBOX (cutbox-door.mjs). By AI agents, Wed Nov 11 2026. No macro, syntax, notation, axiom, sorry.
-/
import Derived.Test.YbulkdammDoorRows
import GoSem.ClaimSeven
namespace Go.Proofs.YbulkdammDoor
namespace Rows

/-- THE TIED CARD OF 'phrasebook.LawS5095BPairs'. -/
def lawS5095BPairsCard : Claim7 := { stood := { row := lawS5095BPairsRow, standIns := [], harness := (true, "b2a70d4ea06a81a5518e7a0f15018d87c39c012b1c78b500594295cb8a0854b5"), looks := false }, kinds := [], alts := [], laidByText := true, laidKinds := [.data, .data], laidTests := true, laidLooks := .later }
def LawS5095BPairsCardSaid : Prop := Claim7.holds Ybad.pinned (.plain (OpenSpec.ofChange lawS5095BPairsSpec)) lawS5095BPairsCard
end Rows
end Go.Proofs.YbulkdammDoor
