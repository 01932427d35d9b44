/-
  No cell of these rows narrows 'for every input' (looked for: loops, veiled, ifaces, maps, wideKeys, modest, calm, conditions, laid).
  DERIVED. THE GIVEN ROWS OF THIS SEAT. 1 by the template 'for every input the law returns true; each argument reads behind the call as it read before'; 0 by the template 'total and deterministic' (their statements: YbulkdakwTotals.lean).
  GIVEN WITH THE SEED: the statements are not yours to turn. If you find one false, say at which input.
  Laid BY PROGRAM, IN A SANDBOX (cutbox-rows.mjs): the forced cells as the released guide's own fill.sh prints them over the translation d4292bf49f159f3d… (all of the seat's roots in one cut). By AI agents, Wed Nov 11 2026. No macro, syntax, notation, axiom, sorry.
-/
import Derived.Test.YbulkdakwChecked
import GoSem.Claim
import GoSem.ClaimJoined
import GoSem.ClaimMapViews
import Derived.JoinedTies
import Derived.KernelRfl
namespace Go.Proofs.Ybulkdakw
/- THE CELL 'sum', in the pinned program and in every row, IS THE sha256 OF THE DUMP (.gsa) THAT YbulkdakwProg.lean LOADS. Nothing in Lean hashes anything: it is a label: what it is worth is what the hold of that sum in a sandbox is worth. -/
noncomputable def Yba.pinned : Pinned := { name := "ybulkdakw", sum := "d4292bf49f159f3d929fc06251eae63df332b0b4a707e0991557c6b856784098", checked := Yba.checked }
namespace Rows
def none {H : Type} : Left H := { results := [], args := [] }

/-- 'procura.LawS5092CFirstMatch': WHATEVER THE INPUT: true; the input reads as it did. -/
def lawS5092CFirstMatchSpec : ChangeSpec := { name := "lawS5092CFirstMatch", fn := fun _ => fun
  | [d1, d2, d3, d4, d5] => { results := [.lit (.bool true)], args := [d1, d2, d3, d4, d5] }
  | _ => none }
def lawS5092CFirstMatchRow : OpenClaim := { program := "ybulkdakw", sum := "d4292bf49f159f3d929fc06251eae63df332b0b4a707e0991557c6b856784098", func := "example.com/procura/procura.LawS5092CFirstMatch", spec := "lawS5092CFirstMatch", apart := false }
def LawS5092CFirstMatchSaid : Prop := lawS5092CFirstMatchRow.holds Yba.pinned (OpenSpec.ofChange lawS5092CFirstMatchSpec)

/-- ITS FALSE NEIGHBOUR: 'it returns false'. Refute it at one input. -/
def lawS5092CFirstMatchWrong : ChangeSpec := { name := "lawS5092CFirstMatch", fn := fun _ => fun
  | [d1, d2, d3, d4, d5] => { results := [.lit (.bool false)], args := [d1, d2, d3, d4, d5] }
  | _ => none }
def LawS5092CFirstMatchWrongFalsely : Prop := lawS5092CFirstMatchRow.holds Yba.pinned (OpenSpec.ofChange lawS5092CFirstMatchWrong)

end Rows
end Go.Proofs.Ybulkdakw
