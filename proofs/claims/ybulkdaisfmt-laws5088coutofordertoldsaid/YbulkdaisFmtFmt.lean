/-
  The closed facts for a walk over fmt's stopped front at this dump: after the kit's worked CheckFmt.lean, its numbers turned.
-/
import Derived.Test.YbulkdaisFmtRows
import Derived.Stop.CallBack
import Derived.Stop.IfaceNil
import GoSem.ClaimData
namespace Go.Proofs.YbulkdaisFmt
open Go.Extern.Stop Go.Stop Go.Extern

theorem call16 (args : Array Value) (w : World) : (callFunc 16 args).run Ybaf.prog w = ((FmtStop.errorf #[9, 60] #[34] args).run Ybaf.prog w).andThen fun v w' => .ok (.value v) w' :=
  run_callFunc_extern Ybaf.func16 (by kernel_rfl) (by kernel_rfl) (by kernel_rfl) (by kernel_rfl) args w
theorem guardF (name : String) (w : World) : (FmtStop.guard name).run Ybaf.prog w = .ok () w := by kernel_rfl
theorem fmt0 : FmtStop.printed? ⟨#[97, 32, 108, 105, 115, 116, 32, 110, 97, 109, 101, 115, 32, 109, 37, 100, 32, 97, 102, 116, 101, 114, 32, 109, 37, 100, 44, 32, 119, 97, 110, 116, 32, 105, 110, 99, 114, 101, 97, 115, 105, 110, 103, 32, 111, 114, 100, 101, 114]⟩ 2 = some [(0, 100, false), (1, 100, false)] := by kernel_rfl
theorem fmt0r (w : World) : (FmtDoors.printed ⟨#[97, 32, 108, 105, 115, 116, 32, 110, 97, 109, 101, 115, 32, 109, 37, 100, 32, 97, 102, 116, 101, 114, 32, 109, 37, 100, 44, 32, 119, 97, 110, 116, 32, 105, 110, 99, 114, 101, 97, 115, 105, 110, 103, 32, 111, 114, 100, 101, 114]⟩ 2).run Ybaf.prog w = .ok [(0, 100, false), (1, 100, false)] w := by kernel_rfl
def shape3 : List UInt8 := [5, 3, 0, 0, 0, 0, 0, 0, 0, 105, 110, 116]
theorem op3_100 (name : String) (x : Int) (w : World) : (FmtStop.operand name false 100 false (.iface 3 (.int .i64 x))).run Ybaf.prog w = .ok (shape3, Go.Extern.Stop.digits 8 (x % 2 ^ 64).toNat) w := by kernel_rfl
theorem op3_100w (name : String) (x : Int) (w : World) : (FmtStop.operand name true 100 false (.iface 3 (.int .i64 x))).run Ybaf.prog w = .ok (shape3, Go.Extern.Stop.digits 8 (x % 2 ^ 64).toNat) w := by kernel_rfl
theorem ptr62 (w : World) : (FmtStop.ptrTo "errors.errorString").run Ybaf.prog w = .ok 62 w := by kernel_rfl
theorem elem62 (w : World) : (elemOf 62).run Ybaf.prog w = .ok 64 w := by kernel_rfl
theorem isError62 (w : World) : (FmtDoors.textMethod 62 "Error").run Ybaf.prog w = .ok true w := by kernel_rfl

end Go.Proofs.YbulkdaisFmt
