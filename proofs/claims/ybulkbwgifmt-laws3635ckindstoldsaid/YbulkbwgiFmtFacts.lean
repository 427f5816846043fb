/-
  CLOSED FACTS FOR A WALK OVER fmt's STOPPED FRONTS in this seat's dump (after the worked examples' Fmt texts). Each by the kernel's evaluation.
-/
import Derived.Test.YbulkbwgiFmtRows
import Derived.WalkKit
import Derived.Stop.CallBack
import Derived.Stop.IfaceNil
import GoSem.ClaimData
namespace Go.Proofs.YbulkbwgiFmt
open Go.Extern.Stop Go.Stop Go.Extern

theorem Ybaf.call23 (args : Array Value) (w : World) : (callFunc 23 args).run Ybaf.prog w = ((FmtStop.sprintf #[9, 86] #[9] args).run Ybaf.prog w).andThen fun v w' => .ok (.value v) w' :=
  run_callFunc_extern Ybaf.func23 (by kernel_rfl) (by kernel_rfl) (by kernel_rfl) (by kernel_rfl) args w
theorem Ybaf.guard (name : String) (w : World) : (FmtStop.guard name).run Ybaf.prog w = .ok () w := by kernel_rfl
-- "EventKind(%d)", one operand
theorem Ybaf.fmtEK : FmtStop.printed? ⟨#[69, 118, 101, 110, 116, 75, 105, 110, 100, 40, 37, 100, 41]⟩ 1 = some [(0, 100, false)] := by kernel_rfl
theorem Ybaf.fmtEKr (w : World) : (FmtDoors.printed ⟨#[69, 118, 101, 110, 116, 75, 105, 110, 100, 40, 37, 100, 41]⟩ 1).run Ybaf.prog w = .ok [(0, 100, false)] w := by kernel_rfl
-- type 3: int
def Ybaf.shape3 : List UInt8 := [5, 3, 0, 0, 0, 0, 0, 0, 0, 105, 110, 116]
theorem Ybaf.op3_100 (name : String) (x : Int) (w : World) : (FmtStop.operand name false 100 false (.iface 3 (.int .i64 x))).run Ybaf.prog w = .ok (Ybaf.shape3, Go.Extern.Stop.digits 8 (x % 2 ^ 64).toNat) w := by kernel_rfl
end Go.Proofs.YbulkbwgiFmt
