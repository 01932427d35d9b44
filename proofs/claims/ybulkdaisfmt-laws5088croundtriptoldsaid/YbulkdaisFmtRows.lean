/-
  NARROWER THAN 'FOR EVERY INPUT', by the rows' own cells (each row's printed sentence says how): LawS5088CRoundTrip: ifaces, laid · LawS5088CTruncated: ifaces, laid · LawS5088COutOfOrder: ifaces, laid.
  DERIVED. THE GIVEN ROWS OF THIS SEAT. 3 by the template 'for every input the law returns true; each argument reads behind the call as it read before'; 0 by the template 'total and deterministic' (their statements: YbulkdaisFmtTotals.lean).
  GIVEN WITH THE SEED: the statements are not yours to turn. If you find one false, say at which input.
  Laid BY PROGRAM, IN A SANDBOX (cutbox-rows.mjs): the forced cells as the released guide's own fill.sh prints them over the translation 5b448d13ee7ec078… (all of the seat's roots in one cut). By AI agents, Wed Nov 11 2026. No macro, syntax, notation, axiom, sorry.
-/
import Derived.Test.YbulkdaisFmtChecked
import GoSem.Claim
import GoSem.ClaimJoined
import GoSem.ClaimMapViews
import Derived.JoinedTies
import Derived.KernelRfl
namespace Go.Proofs.YbulkdaisFmt
/- THE CELL 'sum', in the pinned program and in every row, IS THE sha256 OF THE DUMP (.gsa) THAT YbulkdaisFmtProg.lean LOADS. Nothing in Lean hashes anything: it is a label: what it is worth is what the hold of that sum in a sandbox is worth. -/
noncomputable def Ybaf.pinned : Pinned := { name := "ybulkdaisfmt", sum := "5b448d13ee7ec07863c95fe72c48fb699a592c61eb29a71e5e47442ccdf18e59", checked := Ybaf.checked }
namespace Rows
def none {H : Type} : Left H := { results := [], args := [] }

/- WHAT THE LISTED PACKAGE-LEVEL VARIABLES READ AS WHEN THE CALL BEGINS. Each datum BY PROGRAM (the guide's laid-datum.mjs) off the statement by which the dump's own 'gosem.cut.vars' lays the variable. In a bare row this is a premise. The card (YbulkdaisFmtCards.lean) ties it to the program's text. -/
def laid_io_EOF {H : Type} : DataW H := .iface "*errors.errorString" (.ptr (.agg [.lit (.string [69, 79, 70])]))
def laid_io_ErrUnexpectedEOF {H : Type} : DataW H := .iface "*errors.errorString" (.ptr (.agg [.lit (.string [117, 110, 101, 120, 112, 101, 99, 116, 101, 100, 32, 69, 79, 70])]))
def laid_chorale_example_chorale_internal_wire_errIntOverflow {H : Type} : DataW H := .iface "*errors.errorString" (.ptr (.agg [.lit (.string [110, 117, 109, 98, 101, 114, 32, 111, 118, 101, 114, 102, 108, 111, 119, 115, 32, 97, 110, 32, 105, 110, 116])]))

/-- 'wire.LawS5088CRoundTrip': WHATEVER THE INPUT: true; the input reads as it did. -/
def lawS5088CRoundTripSpec : ChangeSpec := { name := "lawS5088CRoundTrip", vars := ["chorale.example/chorale/internal/wire.errIntOverflow"], fn := fun _ => fun
  | [d1, d2, d3, g1] => { results := [.lit (.bool true)], args := [d1, d2, d3], vars := [g1] }
  | _ => none }
def lawS5088CRoundTripRow : OpenClaim := { program := "ybulkdaisfmt", sum := "5b448d13ee7ec07863c95fe72c48fb699a592c61eb29a71e5e47442ccdf18e59", func := "chorale.example/chorale/internal/wire.LawS5088CRoundTrip", spec := "lawS5088CRoundTrip", stops := ["fmt.errorf"], inPlace := ["fmt.errorf"], unfollowed := true, recurses := true, named := ["chorale.example/chorale/internal/wire.errIntOverflow", "io.EOF", "io.ErrUnexpectedEOF"], ifaces := true, apart := false, laid := [("io.EOF", laid_io_EOF), ("io.ErrUnexpectedEOF", laid_io_ErrUnexpectedEOF), ("chorale.example/chorale/internal/wire.errIntOverflow", laid_chorale_example_chorale_internal_wire_errIntOverflow)] }
/-- NO THEOREM (fmt's text is open here; it may be false): for the released tool's asking of the row's closed facts alone. THE STATEMENT IS 'LawS5088CRoundTripToldSaid' (YbulkdaisFmtCards.lean). -/
def LawS5088CRoundTripFormAsk : Prop := lawS5088CRoundTripRow.holds Ybaf.pinned (OpenSpec.ofChange lawS5088CRoundTripSpec)

/-- ITS FALSE NEIGHBOUR: 'it returns false'. Refute it at one input. -/
def lawS5088CRoundTripWrong : ChangeSpec := { name := "lawS5088CRoundTrip", vars := ["chorale.example/chorale/internal/wire.errIntOverflow"], fn := fun _ => fun
  | [d1, d2, d3, g1] => { results := [.lit (.bool false)], args := [d1, d2, d3], vars := [g1] }
  | _ => none }
def LawS5088CRoundTripWrongFormAsk : Prop := lawS5088CRoundTripRow.holds Ybaf.pinned (OpenSpec.ofChange lawS5088CRoundTripWrong)

/-- 'wire.LawS5088CTruncated': WHATEVER THE INPUT: true; the input reads as it did. -/
def lawS5088CTruncatedSpec : ChangeSpec := { name := "lawS5088CTruncated", vars := ["chorale.example/chorale/internal/wire.errIntOverflow"], fn := fun _ => fun
  | [d1, d2, d3, g1] => { results := [.lit (.bool true)], args := [d1, d2, d3], vars := [g1] }
  | _ => none }
def lawS5088CTruncatedRow : OpenClaim := { program := "ybulkdaisfmt", sum := "5b448d13ee7ec07863c95fe72c48fb699a592c61eb29a71e5e47442ccdf18e59", func := "chorale.example/chorale/internal/wire.LawS5088CTruncated", spec := "lawS5088CTruncated", stops := ["fmt.errorf"], inPlace := ["fmt.errorf"], unfollowed := true, recurses := true, named := ["io.ErrUnexpectedEOF", "chorale.example/chorale/internal/wire.errIntOverflow", "io.EOF"], ifaces := true, apart := false, laid := [("io.EOF", laid_io_EOF), ("io.ErrUnexpectedEOF", laid_io_ErrUnexpectedEOF), ("chorale.example/chorale/internal/wire.errIntOverflow", laid_chorale_example_chorale_internal_wire_errIntOverflow)] }
/-- NO THEOREM (fmt's text is open here; it may be false): for the released tool's asking of the row's closed facts alone. THE STATEMENT IS 'LawS5088CTruncatedToldSaid' (YbulkdaisFmtCards.lean). -/
def LawS5088CTruncatedFormAsk : Prop := lawS5088CTruncatedRow.holds Ybaf.pinned (OpenSpec.ofChange lawS5088CTruncatedSpec)

/-- ITS FALSE NEIGHBOUR: 'it returns false'. Refute it at one input. -/
def lawS5088CTruncatedWrong : ChangeSpec := { name := "lawS5088CTruncated", vars := ["chorale.example/chorale/internal/wire.errIntOverflow"], fn := fun _ => fun
  | [d1, d2, d3, g1] => { results := [.lit (.bool false)], args := [d1, d2, d3], vars := [g1] }
  | _ => none }
def LawS5088CTruncatedWrongFormAsk : Prop := lawS5088CTruncatedRow.holds Ybaf.pinned (OpenSpec.ofChange lawS5088CTruncatedWrong)

/-- 'wire.LawS5088COutOfOrder': WHATEVER THE INPUT: true; the input reads as it did. -/
def lawS5088COutOfOrderSpec : ChangeSpec := { name := "lawS5088COutOfOrder", vars := ["chorale.example/chorale/internal/wire.errIntOverflow"], fn := fun _ => fun
  | [d1, d2, d3, d4, g1] => { results := [.lit (.bool true)], args := [d1, d2, d3, d4], vars := [g1] }
  | _ => none }
def lawS5088COutOfOrderRow : OpenClaim := { program := "ybulkdaisfmt", sum := "5b448d13ee7ec07863c95fe72c48fb699a592c61eb29a71e5e47442ccdf18e59", func := "chorale.example/chorale/internal/wire.LawS5088COutOfOrder", spec := "lawS5088COutOfOrder", stops := ["fmt.errorf"], inPlace := ["fmt.errorf"], unfollowed := true, recurses := true, named := ["io.ErrUnexpectedEOF", "chorale.example/chorale/internal/wire.errIntOverflow", "io.EOF"], ifaces := true, apart := false, laid := [("io.EOF", laid_io_EOF), ("io.ErrUnexpectedEOF", laid_io_ErrUnexpectedEOF), ("chorale.example/chorale/internal/wire.errIntOverflow", laid_chorale_example_chorale_internal_wire_errIntOverflow)] }
/-- NO THEOREM (fmt's text is open here; it may be false): for the released tool's asking of the row's closed facts alone. THE STATEMENT IS 'LawS5088COutOfOrderToldSaid' (YbulkdaisFmtCards.lean). -/
def LawS5088COutOfOrderFormAsk : Prop := lawS5088COutOfOrderRow.holds Ybaf.pinned (OpenSpec.ofChange lawS5088COutOfOrderSpec)

/-- ITS FALSE NEIGHBOUR: 'it returns false'. Refute it at one input. -/
def lawS5088COutOfOrderWrong : ChangeSpec := { name := "lawS5088COutOfOrder", vars := ["chorale.example/chorale/internal/wire.errIntOverflow"], fn := fun _ => fun
  | [d1, d2, d3, d4, g1] => { results := [.lit (.bool false)], args := [d1, d2, d3, d4], vars := [g1] }
  | _ => none }
def LawS5088COutOfOrderWrongFormAsk : Prop := lawS5088COutOfOrderRow.holds Ybaf.pinned (OpenSpec.ofChange lawS5088COutOfOrderWrong)

end Rows
end Go.Proofs.YbulkdaisFmt
