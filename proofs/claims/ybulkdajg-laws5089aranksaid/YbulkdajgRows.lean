/-
  No cell of these rows narrows 'for every input' (looked for: loops, veiled, ifaces, maps, wideKeys, modest, calm, conditions, laid).
  DERIVED. THE GIVEN ROWS OF THIS SEAT. 2 by the template 'for every input the law returns true; each argument reads behind the call as it read before'; 0 by the template 'total and deterministic' (their statements: YbulkdajgTotals.lean).
  GIVEN WITH THE SEED: the statements are not yours to turn. If you find one false, say at which input.
  Laid BY PROGRAM, IN A SANDBOX (cutbox-rows.mjs): the forced cells as the released guide's own fill.sh prints them over the translation 9c3866ede067ea18… (all of the seat's roots in one cut). By AI agents, Wed Nov 11 2026. No macro, syntax, notation, axiom, sorry.
-/
import Derived.Test.YbulkdajgChecked
import GoSem.Claim
import GoSem.ClaimJoined
import GoSem.ClaimMapViews
import Derived.JoinedTies
import Derived.KernelRfl
namespace Go.Proofs.Ybulkdajg
/- THE CELL 'sum', in the pinned program and in every row, IS THE sha256 OF THE DUMP (.gsa) THAT YbulkdajgProg.lean LOADS. Nothing in Lean hashes anything: it is a label: what it is worth is what the hold of that sum in a sandbox is worth. -/
noncomputable def Yba.pinned : Pinned := { name := "ybulkdajg", sum := "9c3866ede067ea18e916b8d1ee008f9224b3a0f05be36b1eaa693f7707fe8723", checked := Yba.checked }
namespace Rows
def none {H : Type} : Left H := { results := [], args := [] }

/-- 'transport.LawS5089ARank': WHATEVER THE INPUT: true; the input reads as it did. -/
def lawS5089ARankSpec : ChangeSpec := { name := "lawS5089ARank", fn := fun _ => fun
  | [d1, d2, d3, d4, d5, d6] => { results := [.lit (.bool true)], args := [d1, d2, d3, d4, d5, d6] }
  | _ => none }
def lawS5089ARankRow : OpenClaim := { program := "ybulkdajg", sum := "9c3866ede067ea18e916b8d1ee008f9224b3a0f05be36b1eaa693f7707fe8723", func := "example.com/quorate/quorate/internal/transport.LawS5089ARank", spec := "lawS5089ARank", apart := false }
def LawS5089ARankSaid : Prop := lawS5089ARankRow.holds Yba.pinned (OpenSpec.ofChange lawS5089ARankSpec)

/-- ITS FALSE NEIGHBOUR: 'it returns false'. Refute it at one input. -/
def lawS5089ARankWrong : ChangeSpec := { name := "lawS5089ARank", fn := fun _ => fun
  | [d1, d2, d3, d4, d5, d6] => { results := [.lit (.bool false)], args := [d1, d2, d3, d4, d5, d6] }
  | _ => none }
def LawS5089ARankWrongFalsely : Prop := lawS5089ARankRow.holds Yba.pinned (OpenSpec.ofChange lawS5089ARankWrong)

/-- 'transport.LawS5089ABusyAgrees': WHATEVER THE INPUT: true; the input reads as it did. -/
def lawS5089ABusyAgreesSpec : ChangeSpec := { name := "lawS5089ABusyAgrees", fn := fun _ => fun
  | [d1, d2, d3] => { results := [.lit (.bool true)], args := [d1, d2, d3] }
  | _ => none }
def lawS5089ABusyAgreesRow : OpenClaim := { program := "ybulkdajg", sum := "9c3866ede067ea18e916b8d1ee008f9224b3a0f05be36b1eaa693f7707fe8723", func := "example.com/quorate/quorate/internal/transport.LawS5089ABusyAgrees", spec := "lawS5089ABusyAgrees", apart := false }
def LawS5089ABusyAgreesSaid : Prop := lawS5089ABusyAgreesRow.holds Yba.pinned (OpenSpec.ofChange lawS5089ABusyAgreesSpec)

/-- ITS FALSE NEIGHBOUR: 'it returns false'. Refute it at one input. -/
def lawS5089ABusyAgreesWrong : ChangeSpec := { name := "lawS5089ABusyAgrees", fn := fun _ => fun
  | [d1, d2, d3] => { results := [.lit (.bool false)], args := [d1, d2, d3] }
  | _ => none }
def LawS5089ABusyAgreesWrongFalsely : Prop := lawS5089ABusyAgreesRow.holds Yba.pinned (OpenSpec.ofChange lawS5089ABusyAgreesWrong)

end Rows
end Go.Proofs.Ybulkdajg
