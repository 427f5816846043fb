/-
  CLOSED FACTS FOR A WALK OVER fmt's STOPPED FRONTS IN THIS SEAT's DUMP (after the worked examples' Fmt texts): each by the kernel's evaluation.
-/
import Derived.Test.YbulkbwimFmtRows
import Derived.WalkKit
import Derived.WalkSpells
import Derived.Stop.CallBack
import Derived.Stop.IfaceNil
import GoSem.ClaimData
namespace Go.Proofs.YbulkbwimFmt
open Go.Extern.Stop Go.Stop Go.Extern
namespace Bf

theorem call11 (args : Array Value) (w : World) : (callFunc 11 args).run Ybaf.prog w = (FmtCalls.sprintf #[9, 38] #[9] args).run Ybaf.prog w :=
  run_callFunc_next Ybaf.func11 (by kernel_rfl) (by kernel_rfl) (by kernel_rfl) args w
theorem call12 (args : Array Value) (w : World) : (callFunc 12 args).run Ybaf.prog w = ((FmtStop.errorf #[9, 38] #[24] args).run Ybaf.prog w).andThen fun v w' => .ok (.value v) w' :=
  run_callFunc_extern Ybaf.func12 (by kernel_rfl) (by kernel_rfl) (by kernel_rfl) (by kernel_rfl) args w
theorem guard (name : String) (w : World) : (FmtStop.guard name).run Ybaf.prog w = .ok () w := by kernel_rfl
theorem nextTurns : Extern.next FmtCalls.turnsRow = some (FmtCalls.begun #[] #[]) := by kernel_rfl
theorem nextReturned : Extern.next FmtCalls.returnedRow = some (FmtCalls.returned #[] #[]) := by kernel_rfl
abbrev sB : ByteArray := ⟨#[37, 115, 32, 37, 100, 32, 105, 115, 32, 98, 101, 108, 111, 119, 32, 49]⟩
theorem fmtB : FmtStop.printed? ⟨#[37, 115, 32, 37, 100, 32, 105, 115, 32, 98, 101, 108, 111, 119, 32, 49]⟩ 2 = some [(0, 115, false), (1, 100, false)] := by kernel_rfl
theorem fmtBr (w : World) : (FmtDoors.printed ⟨#[37, 115, 32, 37, 100, 32, 105, 115, 32, 98, 101, 108, 111, 119, 32, 49]⟩ 2).run Ybaf.prog w = .ok [(0, 115, false), (1, 100, false)] w := by kernel_rfl
abbrev sP : ByteArray := ⟨#[98, 101, 108, 108, 111, 119, 115, 112, 111, 111, 108, 58, 32, 37, 115, 32, 37, 115]⟩
theorem fmtP : FmtStop.printed? ⟨#[98, 101, 108, 108, 111, 119, 115, 112, 111, 111, 108, 58, 32, 37, 115, 32, 37, 115]⟩ 2 = some [(0, 115, false), (1, 115, false)] := by kernel_rfl
theorem fmtPr (w : World) : (FmtDoors.printed ⟨#[98, 101, 108, 108, 111, 119, 115, 112, 111, 111, 108, 58, 32, 37, 115, 32, 37, 115]⟩ 2).run Ybaf.prog w = .ok [(0, 115, false), (1, 115, false)] w := by kernel_rfl
def shape3 : List UInt8 := [5, 3, 0, 0, 0, 0, 0, 0, 0, 105, 110, 116]
theorem act3_100 (name : String) (x : Value) (w : World) : (FmtCalls.act name false 100 false (.iface 3 x)).run Ybaf.prog w = .ok (.closed false) w := by kernel_rfl
theorem op3_100 (name : String) (x : Int) (w : World) : (FmtStop.operand name false 100 false (.iface 3 (.int .i64 x))).run Ybaf.prog w = .ok (shape3, Go.Extern.Stop.digits 8 (x % 2 ^ 64).toNat) w := by kernel_rfl
def shape9 : List UInt8 := [12, 6, 0, 0, 0, 0, 0, 0, 0, 115, 116, 114, 105, 110, 103]
theorem act9_115 (name : String) (x : Value) (w : World) : (FmtCalls.act name false 115 false (.iface 9 x)).run Ybaf.prog w = .ok (.closed false) w := by kernel_rfl
theorem op9_115 (name : String) (s : ByteArray) (w : World) : (FmtStop.operand name false 115 false (.iface 9 (.string s))).run Ybaf.prog w = .ok (shape9, FmtStop.pack s.data.toList) w := by kernel_rfl
theorem op9_115w (name : String) (s : ByteArray) (w : World) : (FmtStop.operand name true 115 false (.iface 9 (.string s))).run Ybaf.prog w = .ok (shape9, FmtStop.pack s.data.toList) w := by kernel_rfl
theorem ptr33 (w : World) : (FmtStop.ptrTo "errors.errorString").run Ybaf.prog w = .ok 33 w := by kernel_rfl
theorem elem33 (w : World) : (elemOf 33).run Ybaf.prog w = .ok 35 w := by kernel_rfl
theorem isError33 (w : World) : (FmtDoors.textMethod 33 "Error").run Ybaf.prog w = .ok true w := by kernel_rfl
end Bf
end Go.Proofs.YbulkbwimFmt
