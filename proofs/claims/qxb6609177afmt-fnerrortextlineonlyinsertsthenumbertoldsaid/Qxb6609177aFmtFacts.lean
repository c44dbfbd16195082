/-
  The closed facts for a walk over fmt's stopped front in this dump (after the kit's own print for a worked example, turned to this program).
-/
import Derived.Test.Qxb6609177aFmtRows
import Derived.Stop.CallBack
import Derived.Stop.IfaceNil
import GoSem.ClaimData
namespace Go.Proofs.Qxb6609177aFmt
open Go.Extern.Stop Go.Stop Go.Extern

theorem call11 (args : Array Value) (w : World) : (callFunc 11 args).run Tryf.prog w = (FmtCalls.sprintf #[9, 55] #[9] args).run Tryf.prog w :=
  run_callFunc_next Tryf.func11 (by kernel_rfl) (by kernel_rfl) (by kernel_rfl) args w
theorem guard (name : String) (w : World) : (FmtStop.guard name).run Tryf.prog w = .ok () w := by kernel_rfl
theorem nextTurns : Extern.next FmtCalls.turnsRow = some (FmtCalls.begun #[] #[]) := by kernel_rfl
theorem nextReturned : Extern.next FmtCalls.returnedRow = some (FmtCalls.returned #[] #[]) := by kernel_rfl

-- the format of two operands: string, colon, blank, value
theorem fmt2 : FmtStop.printed? ⟨#[37, 115, 58, 32, 37, 118]⟩ 2 = some [(0, 115, false), (1, 118, false)] := by kernel_rfl
theorem fmt2r (w : World) : (FmtDoors.printed ⟨#[37, 115, 58, 32, 37, 118]⟩ 2).run Tryf.prog w = .ok [(0, 115, false), (1, 118, false)] w := by kernel_rfl
-- the format of three operands: string, colon, number, colon, blank, value
theorem fmt3 : FmtStop.printed? ⟨#[37, 115, 58, 37, 100, 58, 32, 37, 118]⟩ 3 = some [(0, 115, false), (1, 100, false), (2, 118, false)] := by kernel_rfl
theorem fmt3r (w : World) : (FmtDoors.printed ⟨#[37, 115, 58, 37, 100, 58, 32, 37, 118]⟩ 3).run Tryf.prog w = .ok [(0, 115, false), (1, 100, false), (2, 118, false)] w := by kernel_rfl

-- type 9: string
def shape9 : List UInt8 := [12, 6, 0, 0, 0, 0, 0, 0, 0, 115, 116, 114, 105, 110, 103]
theorem act9_115 (name : String) (x : Value) (w : World) : (FmtCalls.act name false 115 false (.iface 9 x)).run Tryf.prog w = .ok (.closed false) w := by kernel_rfl
theorem op9_115 (name : String) (x : ByteArray) (w : World) : (FmtStop.operand name false 115 false (.iface 9 (.string x))).run Tryf.prog w = .ok (shape9, FmtStop.pack x.data.toList) w := by kernel_rfl
-- type 3: int
def shape3 : List UInt8 := [5, 3, 0, 0, 0, 0, 0, 0, 0, 105, 110, 116]
theorem act3_100 (name : String) (x : Value) (w : World) : (FmtCalls.act name false 100 false (.iface 3 x)).run Tryf.prog w = .ok (.closed false) w := by kernel_rfl
theorem op3_100 (name : String) (x : Int) (w : World) : (FmtStop.operand name false 100 false (.iface 3 (.int .i64 x))).run Tryf.prog w = .ok (shape3, Go.Extern.Stop.digits 8 (x % 2 ^ 64).toNat) w := by kernel_rfl
-- type 27: the pointer to the package's own error
theorem act27_118 (name : String) (x : Value) (w : World) : (FmtCalls.act name false 118 false (.iface 27 x)).run Tryf.prog w = .ok (.call true) w := by kernel_rfl
theorem isError27 (w : World) : (FmtDoors.textMethod 27 "Error").run Tryf.prog w = .ok true w := by kernel_rfl
theorem invokeError27 (x : Value) (w : World) : (invoke (.fn (.method "Error") #[]) #[.iface 27 x]).run Tryf.prog w = .ok (.enter 27 #[x]) w := by kernel_rfl
def nm27 : String := String.ofList (Char.ofNat 42 :: "input.JSONError".toList)
theorem str27 (w : World) : (typeStr 27).run Tryf.prog w = .ok nm27 w := by kernel_rfl
end Go.Proofs.Qxb6609177aFmt
