/-
  CLOSED FACTS FOR A WALK OVER fmt.errorf IN THIS SEAT's DUMP (after the worked examples' Fmt texts): each by the kernel's evaluation.
-/
import Derived.Test.YbulkbwgiFmtRows
import Derived.WalkKit
import Derived.WalkSpells
import Derived.Stop.CallBack
import Derived.Stop.IfaceNil
import GoSem.ClaimData
namespace Go.Proofs.YbulkbwgiFmt
open Go.Extern.Stop Go.Stop Go.Extern
namespace Hf

theorem call26 (args : Array Value) (w : World) : (callFunc 26 args).run Ybaf.prog w = (FmtCalls.errorf #[9, 86] #[45] args).run Ybaf.prog w :=
  run_callFunc_next Ybaf.func26 (by kernel_rfl) (by kernel_rfl) (by kernel_rfl) args w
theorem guard (name : String) (w : World) : (FmtStop.guard name).run Ybaf.prog w = .ok () w := by kernel_rfl
theorem nextTurns : Extern.next FmtCalls.turnsRow = some (FmtCalls.begun #[] #[]) := by kernel_rfl
theorem nextReturned : Extern.next FmtCalls.returnedRow = some (FmtCalls.returned #[] #[]) := by kernel_rfl

-- 15
abbrev s15 : ByteArray := ⟨#[104, 97, 115, 121, 110, 99, 58, 32, 37, 115, 32, 111, 110, 32, 97, 110, 32, 73, 75, 69, 32, 83, 65, 32, 111, 110, 32, 119, 104, 105, 99, 104, 32, 37, 118, 32, 119, 97, 115, 32, 110, 111, 116, 32, 110, 101, 103, 111, 116, 105, 97, 116, 101, 100]⟩
theorem fmt15 : FmtStop.printed? ⟨#[104, 97, 115, 121, 110, 99, 58, 32, 37, 115, 32, 111, 110, 32, 97, 110, 32, 73, 75, 69, 32, 83, 65, 32, 111, 110, 32, 119, 104, 105, 99, 104, 32, 37, 118, 32, 119, 97, 115, 32, 110, 111, 116, 32, 110, 101, 103, 111, 116, 105, 97, 116, 101, 100]⟩ 2 = some [(0, 115, false), (1, 118, false)] := by kernel_rfl
theorem fmt15r (w : World) : (FmtDoors.printed ⟨#[104, 97, 115, 121, 110, 99, 58, 32, 37, 115, 32, 111, 110, 32, 97, 110, 32, 73, 75, 69, 32, 83, 65, 32, 111, 110, 32, 119, 104, 105, 99, 104, 32, 37, 118, 32, 119, 97, 115, 32, 110, 111, 116, 32, 110, 101, 103, 111, 116, 105, 97, 116, 101, 100]⟩ 2).run Ybaf.prog w = .ok [(0, 115, false), (1, 118, false)] w := by kernel_rfl
-- 16
abbrev s16 : ByteArray := ⟨#[104, 97, 115, 121, 110, 99, 58, 32, 112, 97, 121, 108, 111, 97, 100, 32, 37, 100, 58, 32, 37, 119]⟩
theorem fmt16 : FmtStop.printed? ⟨#[104, 97, 115, 121, 110, 99, 58, 32, 112, 97, 121, 108, 111, 97, 100, 32, 37, 100, 58, 32, 37, 119]⟩ 2 = some [(0, 100, false), (1, 119, false)] := by kernel_rfl
theorem fmt16r (w : World) : (FmtDoors.printed ⟨#[104, 97, 115, 121, 110, 99, 58, 32, 112, 97, 121, 108, 111, 97, 100, 32, 37, 100, 58, 32, 37, 119]⟩ 2).run Ybaf.prog w = .ok [(0, 100, false), (1, 119, false)] w := by kernel_rfl
-- 17
abbrev s17 : ByteArray := ⟨#[104, 97, 115, 121, 110, 99, 58, 32, 37, 115, 32, 112, 97, 121, 108, 111, 97, 100, 32, 37, 100, 32, 105, 115, 32, 97, 110, 32, 37, 118, 32, 110, 111, 116, 105, 102, 121, 44, 32, 119, 104, 105, 99, 104, 32, 111, 110, 108, 121, 32, 97, 32, 114, 101, 113, 117, 101, 115, 116, 32, 119, 105, 116, 104, 32, 77, 101, 115, 115, 97, 103, 101, 32, 73, 68, 32, 48, 32, 99, 97, 114, 114, 105, 101, 115]⟩
theorem fmt17 : FmtStop.printed? ⟨#[104, 97, 115, 121, 110, 99, 58, 32, 37, 115, 32, 112, 97, 121, 108, 111, 97, 100, 32, 37, 100, 32, 105, 115, 32, 97, 110, 32, 37, 118, 32, 110, 111, 116, 105, 102, 121, 44, 32, 119, 104, 105, 99, 104, 32, 111, 110, 108, 121, 32, 97, 32, 114, 101, 113, 117, 101, 115, 116, 32, 119, 105, 116, 104, 32, 77, 101, 115, 115, 97, 103, 101, 32, 73, 68, 32, 48, 32, 99, 97, 114, 114, 105, 101, 115]⟩ 3 = some [(0, 115, false), (1, 100, false), (2, 118, false)] := by kernel_rfl
theorem fmt17r (w : World) : (FmtDoors.printed ⟨#[104, 97, 115, 121, 110, 99, 58, 32, 37, 115, 32, 112, 97, 121, 108, 111, 97, 100, 32, 37, 100, 32, 105, 115, 32, 97, 110, 32, 37, 118, 32, 110, 111, 116, 105, 102, 121, 44, 32, 119, 104, 105, 99, 104, 32, 111, 110, 108, 121, 32, 97, 32, 114, 101, 113, 117, 101, 115, 116, 32, 119, 105, 116, 104, 32, 77, 101, 115, 115, 97, 103, 101, 32, 73, 68, 32, 48, 32, 99, 97, 114, 114, 105, 101, 115]⟩ 3).run Ybaf.prog w = .ok [(0, 115, false), (1, 100, false), (2, 118, false)] w := by kernel_rfl
-- 19
abbrev s19 : ByteArray := ⟨#[104, 97, 115, 121, 110, 99, 58, 32, 37, 115, 32, 112, 97, 121, 108, 111, 97, 100, 32, 37, 100, 32, 105, 115, 32, 97, 32, 115, 101, 99, 111, 110, 100, 32, 110, 111, 116, 105, 102, 121, 32, 111, 102, 32, 116, 121, 112, 101, 32, 37, 118]⟩
theorem fmt19 : FmtStop.printed? ⟨#[104, 97, 115, 121, 110, 99, 58, 32, 37, 115, 32, 112, 97, 121, 108, 111, 97, 100, 32, 37, 100, 32, 105, 115, 32, 97, 32, 115, 101, 99, 111, 110, 100, 32, 110, 111, 116, 105, 102, 121, 32, 111, 102, 32, 116, 121, 112, 101, 32, 37, 118]⟩ 3 = some [(0, 115, false), (1, 100, false), (2, 118, false)] := by kernel_rfl
theorem fmt19r (w : World) : (FmtDoors.printed ⟨#[104, 97, 115, 121, 110, 99, 58, 32, 37, 115, 32, 112, 97, 121, 108, 111, 97, 100, 32, 37, 100, 32, 105, 115, 32, 97, 32, 115, 101, 99, 111, 110, 100, 32, 110, 111, 116, 105, 102, 121, 32, 111, 102, 32, 116, 121, 112, 101, 32, 37, 118]⟩ 3).run Ybaf.prog w = .ok [(0, 115, false), (1, 100, false), (2, 118, false)] w := by kernel_rfl
-- 21
abbrev s21 : ByteArray := ⟨#[104, 97, 115, 121, 110, 99, 58, 32, 37, 115, 32, 111, 102, 32, 37, 100, 32, 112, 97, 121, 108, 111, 97, 100, 115, 32, 119, 105, 116, 104, 111, 117, 116, 32, 97, 110, 32, 37, 118, 32, 110, 111, 116, 105, 102, 121]⟩
theorem fmt21 : FmtStop.printed? ⟨#[104, 97, 115, 121, 110, 99, 58, 32, 37, 115, 32, 111, 102, 32, 37, 100, 32, 112, 97, 121, 108, 111, 97, 100, 115, 32, 119, 105, 116, 104, 111, 117, 116, 32, 97, 110, 32, 37, 118, 32, 110, 111, 116, 105, 102, 121]⟩ 3 = some [(0, 115, false), (1, 100, false), (2, 118, false)] := by kernel_rfl
theorem fmt21r (w : World) : (FmtDoors.printed ⟨#[104, 97, 115, 121, 110, 99, 58, 32, 37, 115, 32, 111, 102, 32, 37, 100, 32, 112, 97, 121, 108, 111, 97, 100, 115, 32, 119, 105, 116, 104, 111, 117, 116, 32, 97, 110, 32, 37, 118, 32, 110, 111, 116, 105, 102, 121]⟩ 3).run Ybaf.prog w = .ok [(0, 115, false), (1, 100, false), (2, 118, false)] w := by kernel_rfl
-- 20
abbrev s20 : ByteArray := ⟨#[104, 97, 115, 121, 110, 99, 58, 32, 37, 118, 32, 119, 105, 116, 104, 32, 97, 110, 32, 83, 80, 73, 32, 111, 102, 32, 37, 100, 32, 111, 99, 116, 101, 116, 115, 32, 97, 110, 100, 32, 37, 100, 32, 111, 99, 116, 101, 116, 115, 32, 111, 102, 32, 100, 97, 116, 97, 44, 32, 119, 97, 110, 116, 32, 48, 32, 97, 110, 100, 32, 37, 100, 32, 111, 114, 32, 37, 100]⟩
theorem fmt20 : FmtStop.printed? ⟨#[104, 97, 115, 121, 110, 99, 58, 32, 37, 118, 32, 119, 105, 116, 104, 32, 97, 110, 32, 83, 80, 73, 32, 111, 102, 32, 37, 100, 32, 111, 99, 116, 101, 116, 115, 32, 97, 110, 100, 32, 37, 100, 32, 111, 99, 116, 101, 116, 115, 32, 111, 102, 32, 100, 97, 116, 97, 44, 32, 119, 97, 110, 116, 32, 48, 32, 97, 110, 100, 32, 37, 100, 32, 111, 114, 32, 37, 100]⟩ 5 = some [(0, 118, false), (1, 100, false), (2, 100, false), (3, 100, false), (4, 100, false)] := by kernel_rfl
theorem fmt20r (w : World) : (FmtDoors.printed ⟨#[104, 97, 115, 121, 110, 99, 58, 32, 37, 118, 32, 119, 105, 116, 104, 32, 97, 110, 32, 83, 80, 73, 32, 111, 102, 32, 37, 100, 32, 111, 99, 116, 101, 116, 115, 32, 97, 110, 100, 32, 37, 100, 32, 111, 99, 116, 101, 116, 115, 32, 111, 102, 32, 100, 97, 116, 97, 44, 32, 119, 97, 110, 116, 32, 48, 32, 97, 110, 100, 32, 37, 100, 32, 111, 114, 32, 37, 100]⟩ 5).run Ybaf.prog w = .ok [(0, 118, false), (1, 100, false), (2, 100, false), (3, 100, false), (4, 100, false)] w := by kernel_rfl
-- 22
abbrev s22 : ByteArray := ⟨#[104, 97, 115, 121, 110, 99, 58, 32, 37, 118, 32, 100, 101, 108, 116, 97, 32, 111, 102, 32, 37, 100, 32, 111, 99, 116, 101, 116, 115, 32, 102, 111, 114, 32, 67, 104, 105, 108, 100, 32, 83, 65, 115, 32, 119, 104, 111, 115, 101, 32, 101, 120, 116, 101, 110, 100, 101, 100, 32, 115, 101, 113, 117, 101, 110, 99, 101, 32, 110, 117, 109, 98, 101, 114, 115, 32, 99, 97, 108, 108, 32, 102, 111, 114, 32, 37, 100]⟩
theorem fmt22 : FmtStop.printed? ⟨#[104, 97, 115, 121, 110, 99, 58, 32, 37, 118, 32, 100, 101, 108, 116, 97, 32, 111, 102, 32, 37, 100, 32, 111, 99, 116, 101, 116, 115, 32, 102, 111, 114, 32, 67, 104, 105, 108, 100, 32, 83, 65, 115, 32, 119, 104, 111, 115, 101, 32, 101, 120, 116, 101, 110, 100, 101, 100, 32, 115, 101, 113, 117, 101, 110, 99, 101, 32, 110, 117, 109, 98, 101, 114, 115, 32, 99, 97, 108, 108, 32, 102, 111, 114, 32, 37, 100]⟩ 3 = some [(0, 118, false), (1, 100, false), (2, 100, false)] := by kernel_rfl
theorem fmt22r (w : World) : (FmtDoors.printed ⟨#[104, 97, 115, 121, 110, 99, 58, 32, 37, 118, 32, 100, 101, 108, 116, 97, 32, 111, 102, 32, 37, 100, 32, 111, 99, 116, 101, 116, 115, 32, 102, 111, 114, 32, 67, 104, 105, 108, 100, 32, 83, 65, 115, 32, 119, 104, 111, 115, 101, 32, 101, 120, 116, 101, 110, 100, 101, 100, 32, 115, 101, 113, 117, 101, 110, 99, 101, 32, 110, 117, 109, 98, 101, 114, 115, 32, 99, 97, 108, 108, 32, 102, 111, 114, 32, 37, 100]⟩ 3).run Ybaf.prog w = .ok [(0, 118, false), (1, 100, false), (2, 100, false)] w := by kernel_rfl
-- 31
abbrev s31 : ByteArray := ⟨#[104, 97, 115, 121, 110, 99, 58, 32, 67, 104, 105, 108, 100, 32, 83, 65, 115, 32, 49, 32, 97, 110, 100, 32, 37, 100, 32, 100, 105, 115, 97, 103, 114, 101, 101, 32, 111, 110, 32, 101, 120, 116, 101, 110, 100, 101, 100, 32, 115, 101, 113, 117, 101, 110, 99, 101, 32, 110, 117, 109, 98, 101, 114, 115]⟩
theorem fmt31 : FmtStop.printed? ⟨#[104, 97, 115, 121, 110, 99, 58, 32, 67, 104, 105, 108, 100, 32, 83, 65, 115, 32, 49, 32, 97, 110, 100, 32, 37, 100, 32, 100, 105, 115, 97, 103, 114, 101, 101, 32, 111, 110, 32, 101, 120, 116, 101, 110, 100, 101, 100, 32, 115, 101, 113, 117, 101, 110, 99, 101, 32, 110, 117, 109, 98, 101, 114, 115]⟩ 1 = some [(0, 100, false)] := by kernel_rfl
theorem fmt31r (w : World) : (FmtDoors.printed ⟨#[104, 97, 115, 121, 110, 99, 58, 32, 67, 104, 105, 108, 100, 32, 83, 65, 115, 32, 49, 32, 97, 110, 100, 32, 37, 100, 32, 100, 105, 115, 97, 103, 114, 101, 101, 32, 111, 110, 32, 101, 120, 116, 101, 110, 100, 101, 100, 32, 115, 101, 113, 117, 101, 110, 99, 101, 32, 110, 117, 109, 98, 101, 114, 115]⟩ 1).run Ybaf.prog w = .ok [(0, 100, false)] w := by kernel_rfl
-- 25a
abbrev s25a : ByteArray := ⟨#[105, 107, 101, 118, 50, 58, 32, 110, 111, 116, 105, 102, 121, 32, 98, 111, 100, 121, 32, 111, 102, 32, 37, 100, 32, 111, 99, 116, 101, 116, 115, 44, 32, 115, 104, 111, 114, 116, 101, 114, 32, 116, 104, 97, 110, 32, 105, 116, 115, 32, 37, 100, 45, 111, 99, 116, 101, 116, 32, 104, 101, 97, 100, 101, 114]⟩
theorem fmt25a : FmtStop.printed? ⟨#[105, 107, 101, 118, 50, 58, 32, 110, 111, 116, 105, 102, 121, 32, 98, 111, 100, 121, 32, 111, 102, 32, 37, 100, 32, 111, 99, 116, 101, 116, 115, 44, 32, 115, 104, 111, 114, 116, 101, 114, 32, 116, 104, 97, 110, 32, 105, 116, 115, 32, 37, 100, 45, 111, 99, 116, 101, 116, 32, 104, 101, 97, 100, 101, 114]⟩ 2 = some [(0, 100, false), (1, 100, false)] := by kernel_rfl
theorem fmt25ar (w : World) : (FmtDoors.printed ⟨#[105, 107, 101, 118, 50, 58, 32, 110, 111, 116, 105, 102, 121, 32, 98, 111, 100, 121, 32, 111, 102, 32, 37, 100, 32, 111, 99, 116, 101, 116, 115, 44, 32, 115, 104, 111, 114, 116, 101, 114, 32, 116, 104, 97, 110, 32, 105, 116, 115, 32, 37, 100, 45, 111, 99, 116, 101, 116, 32, 104, 101, 97, 100, 101, 114]⟩ 2).run Ybaf.prog w = .ok [(0, 100, false), (1, 100, false)] w := by kernel_rfl
-- 25b
abbrev s25b : ByteArray := ⟨#[105, 107, 101, 118, 50, 58, 32, 110, 111, 116, 105, 102, 121, 32, 83, 80, 73, 32, 111, 102, 32, 37, 100, 32, 111, 99, 116, 101, 116, 115, 32, 105, 110, 32, 97, 32, 98, 111, 100, 121, 32, 111, 102, 32, 37, 100]⟩
theorem fmt25b : FmtStop.printed? ⟨#[105, 107, 101, 118, 50, 58, 32, 110, 111, 116, 105, 102, 121, 32, 83, 80, 73, 32, 111, 102, 32, 37, 100, 32, 111, 99, 116, 101, 116, 115, 32, 105, 110, 32, 97, 32, 98, 111, 100, 121, 32, 111, 102, 32, 37, 100]⟩ 2 = some [(0, 100, false), (1, 100, false)] := by kernel_rfl
theorem fmt25br (w : World) : (FmtDoors.printed ⟨#[105, 107, 101, 118, 50, 58, 32, 110, 111, 116, 105, 102, 121, 32, 83, 80, 73, 32, 111, 102, 32, 37, 100, 32, 111, 99, 116, 101, 116, 115, 32, 105, 110, 32, 97, 32, 98, 111, 100, 121, 32, 111, 102, 32, 37, 100]⟩ 2).run Ybaf.prog w = .ok [(0, 100, false), (1, 100, false)] w := by kernel_rfl
-- type 3: int
def shape3 : List UInt8 := [5, 3, 0, 0, 0, 0, 0, 0, 0, 105, 110, 116]
theorem act3_100w (name : String) (x : Value) (w : World) : (FmtCalls.act name true 100 false (.iface 3 x)).run Ybaf.prog w = .ok (.closed true) w := by kernel_rfl
theorem op3_100w (name : String) (x : Int) (w : World) : (FmtStop.operand name true 100 false (.iface 3 (.int .i64 x))).run Ybaf.prog w = .ok (shape3, Go.Extern.Stop.digits 8 (x % 2 ^ 64).toNat) w := by kernel_rfl
-- type 5: uint8
def shape5 : List UInt8 := [6, 5, 0, 0, 0, 0, 0, 0, 0, 117, 105, 110, 116, 56]
theorem act5_100w (name : String) (x : Value) (w : World) : (FmtCalls.act name true 100 false (.iface 5 x)).run Ybaf.prog w = .ok (.closed true) w := by kernel_rfl
theorem op5_100w (name : String) (x : Int) (w : World) : (FmtStop.operand name true 100 false (.iface 5 (.int .u8 x))).run Ybaf.prog w = .ok (shape5, Go.Extern.Stop.digits 8 (x % 2 ^ 64).toNat) w := by kernel_rfl
-- type 70: hasync.message
def shape70 : List UInt8 := [12, 14, 0, 0, 0, 0, 0, 0, 0, 104, 97, 115, 121, 110, 99, 46, 109, 101, 115, 115, 97, 103, 101]
theorem act70_115w (name : String) (x : Value) (w : World) : (FmtCalls.act name true 115 false (.iface 70 x)).run Ybaf.prog w = .ok (.closed true) w := by kernel_rfl
theorem op70_115w (name : String) (s : ByteArray) (w : World) : (FmtStop.operand name true 115 false (.iface 70 (.string s))).run Ybaf.prog w = .ok (shape70, FmtStop.pack s.data.toList) w := by kernel_rfl
-- type 64: hasync.NotifyType
theorem act64_118w (name : String) (x : Value) (w : World) : (FmtCalls.act name true 118 false (.iface 64 x)).run Ybaf.prog w = .ok (.call false) w := by kernel_rfl
theorem isError64 (w : World) : (FmtDoors.textMethod 64 "Error").run Ybaf.prog w = .ok false w := by kernel_rfl
theorem invokeString64 (x : Value) (w : World) : (invoke (.fn (.method "String") #[]) #[.iface 64 x]).run Ybaf.prog w = .ok (.enter 28 #[x]) w := by kernel_rfl
theorem str64 (w : World) : (typeStr 64).run Ybaf.prog w = .ok "hasync.NotifyType" w := by kernel_rfl
-- the two error types that fmt.errorf makes
theorem ptr99 (w : World) : (FmtStop.ptrTo "errors.errorString").run Ybaf.prog w = .ok 99 w := by kernel_rfl
theorem elem99 (w : World) : (elemOf 99).run Ybaf.prog w = .ok 101 w := by kernel_rfl
theorem isError99 (w : World) : (FmtDoors.textMethod 99 "Error").run Ybaf.prog w = .ok true w := by kernel_rfl
def plain99 : List UInt8 := 14 :: FmtStop.pack "*errors.errorString".toUTF8.data.toList
theorem op99_119w (name : String) (a : Addr) (s : ByteArray) (w : World) (hc : w.cell? a = some (.string s)) :
    (FmtStop.operand name true 119 false (.iface 99 (.pointer (some a)))).run Ybaf.prog w = .ok (plain99, s.data.toList) w := by
  have h1 : (typeStr 99).run Ybaf.prog w = .ok "*errors.errorString" w := by kernel_rfl
  have d2 : Ybaf.t99.desc = .pointer 101 := rfl
  have d3 : Ybaf.t101.desc = .named "errors.errorString" 100 := rfl
  simp [FmtStop.operand, h1, d2, d3, run_load, hc, plain99]
theorem act99_119w (name : String) (x : Value) (w : World) : (FmtCalls.act name true 119 false (.iface 99 x)).run Ybaf.prog w = .ok (.closed true) w := by kernel_rfl
theorem ptr88 (w : World) : (FmtStop.ptrTo "fmt.wrapError").run Ybaf.prog w = .ok 88 w := by kernel_rfl
theorem elem88 (w : World) : (elemOf 88).run Ybaf.prog w = .ok 132 w := by kernel_rfl
theorem isError88 (w : World) : (FmtDoors.textMethod 88 "Error").run Ybaf.prog w = .ok true w := by kernel_rfl
end Hf
end Go.Proofs.YbulkbwgiFmt
