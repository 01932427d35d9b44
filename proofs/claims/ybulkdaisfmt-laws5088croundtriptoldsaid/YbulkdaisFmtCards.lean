/-
  DERIVED. GIVEN WITH THE SEED: THE CARDS: each row of YbulkdaisFmtRows.lean that lists a variable, with what it lists TIED to the program's text (the seventh form; the later family's looks); each row that meets fmt, with fmt's text TOLD by the authors' own Lean function (tested against real Go, not proved from fmt's source: count such statements apart). THE CARD IS WHAT COUNTS. Prove the row's statement (the work); the ties are given (YbulkdaisFmtTie.lean); close each card by the builder's one call (the guide's Derived/Test/ToyasCard.lean, 'card_holds'). Laid BY PROGRAM, IN A SANDBOX (cutbox-door.mjs). By AI agents, Wed Nov 11 2026. No macro, syntax, notation, axiom, sorry.
-/
import Derived.Test.YbulkdaisFmtRows
import GoSem.ClaimSeven
namespace Go.Proofs.YbulkdaisFmt
namespace Rows

/-- THE TOLD AND TIED CARD OF 'wire.LawS5088CRoundTrip'. -/
def lawS5088CRoundTripCard : Claim7 := { stood := { row := lawS5088CRoundTripRow, standIns := [], harness := (true, "8f3b72d31c58d0ec4c89100163231ec8e79cf806f4225b6c0fb970dcb519c0f2"), looks := true }, told := true, laidByText := true, laidKinds := [.sentinel, .sentinel, .called], laidTests := true, laidLooks := .later, goes := false }
def LawS5088CRoundTripToldSaid : Prop := Claim7.holds Ybaf.pinned (.plain (OpenSpec.ofChange lawS5088CRoundTripSpec)) lawS5088CRoundTripCard
/-- ITS FALSE NEIGHBOUR. Refute it at one input. -/
def LawS5088CRoundTripToldWrongFalsely : Prop := Claim7.holds Ybaf.pinned (.plain (OpenSpec.ofChange lawS5088CRoundTripWrong)) lawS5088CRoundTripCard

/-- THE TOLD AND TIED CARD OF 'wire.LawS5088CTruncated'. -/
def lawS5088CTruncatedCard : Claim7 := { stood := { row := lawS5088CTruncatedRow, standIns := [], harness := (true, "8f3b72d31c58d0ec4c89100163231ec8e79cf806f4225b6c0fb970dcb519c0f2"), looks := true }, told := true, laidByText := true, laidKinds := [.sentinel, .sentinel, .called], laidTests := true, laidLooks := .later, goes := false }
def LawS5088CTruncatedToldSaid : Prop := Claim7.holds Ybaf.pinned (.plain (OpenSpec.ofChange lawS5088CTruncatedSpec)) lawS5088CTruncatedCard
/-- ITS FALSE NEIGHBOUR. Refute it at one input. -/
def LawS5088CTruncatedToldWrongFalsely : Prop := Claim7.holds Ybaf.pinned (.plain (OpenSpec.ofChange lawS5088CTruncatedWrong)) lawS5088CTruncatedCard

/-- THE TOLD AND TIED CARD OF 'wire.LawS5088COutOfOrder'. -/
def lawS5088COutOfOrderCard : Claim7 := { stood := { row := lawS5088COutOfOrderRow, standIns := [], harness := (true, "8f3b72d31c58d0ec4c89100163231ec8e79cf806f4225b6c0fb970dcb519c0f2"), looks := true }, told := true, laidByText := true, laidKinds := [.sentinel, .sentinel, .called], laidTests := true, laidLooks := .later, goes := false }
def LawS5088COutOfOrderToldSaid : Prop := Claim7.holds Ybaf.pinned (.plain (OpenSpec.ofChange lawS5088COutOfOrderSpec)) lawS5088COutOfOrderCard
/-- ITS FALSE NEIGHBOUR. Refute it at one input. -/
def LawS5088COutOfOrderToldWrongFalsely : Prop := Claim7.holds Ybaf.pinned (.plain (OpenSpec.ofChange lawS5088COutOfOrderWrong)) lawS5088COutOfOrderCard
end Rows
end Go.Proofs.YbulkdaisFmt
