/-
  No cell of these rows narrows 'for every input' (looked for: loops, veiled, ifaces, maps, wideKeys, modest, calm, conditions, laid).
  DERIVED. THE GIVEN ROWS OF THIS SEAT. 1 by the template 'for every input the law returns true; each argument reads behind the call as it read before'; 0 by the template 'total and deterministic' (their statements: YbulkdammTotals.lean).
  GIVEN WITH THE SEED: the statements are not yours to turn. If you find one false, say at which input.
  Laid BY PROGRAM, IN A SANDBOX (cutbox-rows.mjs): the forced cells as the released guide's own fill.sh prints them over the translation 20975c7cb108118e… (all of the seat's roots in one cut). By AI agents, Wed Nov 11 2026. No macro, syntax, notation, axiom, sorry.
-/
import Derived.Test.YbulkdammChecked
import GoSem.Claim
import GoSem.ClaimJoined
import GoSem.ClaimMapViews
import Derived.JoinedTies
import Derived.KernelRfl
namespace Go.Proofs.Ybulkdamm
/- THE CELL 'sum', in the pinned program and in every row, IS THE sha256 OF THE DUMP (.gsa) THAT YbulkdammProg.lean LOADS. Nothing in Lean hashes anything: it is a label: what it is worth is what the hold of that sum in a sandbox is worth. -/
noncomputable def Yba.pinned : Pinned := { name := "ybulkdamm", sum := "20975c7cb108118e71e3010adb168238007ca7c6f7dce0ee3270100894a13186", checked := Yba.checked }
namespace Rows
def none {H : Type} : Left H := { results := [], args := [] }

/-- 'phrasebook.LawS5095CModel': WHATEVER THE INPUT: true; the input reads as it did. -/
def lawS5095CModelSpec : ChangeSpec := { name := "lawS5095CModel", fn := fun _ => fun
  | [d1, d2, d3] => { results := [.lit (.bool true)], args := [d1, d2, d3] }
  | _ => none }
def lawS5095CModelRow : OpenClaim := { program := "ybulkdamm", sum := "20975c7cb108118e71e3010adb168238007ca7c6f7dce0ee3270100894a13186", func := "example.com/phrasebook/phrasebook.LawS5095CModel", spec := "lawS5095CModel", unfollowed := true, recurses := true, apart := false }
def LawS5095CModelSaid : Prop := lawS5095CModelRow.holds Yba.pinned (OpenSpec.ofChange lawS5095CModelSpec)

/-- ITS FALSE NEIGHBOUR: 'it returns false'. Refute it at one input. -/
def lawS5095CModelWrong : ChangeSpec := { name := "lawS5095CModel", fn := fun _ => fun
  | [d1, d2, d3] => { results := [.lit (.bool false)], args := [d1, d2, d3] }
  | _ => none }
def LawS5095CModelWrongFalsely : Prop := lawS5095CModelRow.holds Yba.pinned (OpenSpec.ofChange lawS5095CModelWrong)

end Rows
end Go.Proofs.Ybulkdamm
