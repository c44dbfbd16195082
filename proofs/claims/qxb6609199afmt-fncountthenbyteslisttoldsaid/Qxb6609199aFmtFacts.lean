/-
  The closed facts for a walk over fmt's stopped front in this dump (after the kit's own print for a worked example, turned to this program).
-/
import Derived.Test.Qxb6609199aFmtRows
import Derived.Stop.CallBack
import Derived.Stop.IfaceNil
import GoSem.ClaimData
namespace Go.Proofs.Qxb6609199aFmt
open Go.Extern.Stop Go.Stop Go.Extern

theorem call22 (args : Array Value) (w : World) : (callFunc 22 args).run Tryf.prog w = ((FmtStop.errorf #[9, 49] #[32] args).run Tryf.prog w).andThen fun v w' => .ok (.value v) w' :=
  run_callFunc_extern Tryf.func22 (by kernel_rfl) (by kernel_rfl) (by kernel_rfl) (by kernel_rfl) args w
theorem guard (name : String) (w : World) : (FmtStop.guard name).run Tryf.prog w = .ok () w := by kernel_rfl

-- the three formats, two operands each
def fmtF : ByteArray := ⟨#[102, 105, 101, 108, 100, 32, 111, 102, 32, 37, 100, 32, 98, 121, 116, 101, 115, 32, 114, 117, 110, 115, 32, 112, 97, 115, 116, 32, 116, 104, 101, 32, 101, 110, 100, 44, 32, 37, 100, 32, 98, 121, 116, 101, 115, 32, 108, 101, 102, 116]⟩
theorem fmtF0 : FmtStop.printed? ⟨#[102, 105, 101, 108, 100, 32, 111, 102, 32, 37, 100, 32, 98, 121, 116, 101, 115, 32, 114, 117, 110, 115, 32, 112, 97, 115, 116, 32, 116, 104, 101, 32, 101, 110, 100, 44, 32, 37, 100, 32, 98, 121, 116, 101, 115, 32, 108, 101, 102, 116]⟩ 2 = some [(0, 100, false), (1, 100, false)] := by kernel_rfl
theorem fmtFr (w : World) : (FmtDoors.printed ⟨#[102, 105, 101, 108, 100, 32, 111, 102, 32, 37, 100, 32, 98, 121, 116, 101, 115, 32, 114, 117, 110, 115, 32, 112, 97, 115, 116, 32, 116, 104, 101, 32, 101, 110, 100, 44, 32, 37, 100, 32, 98, 121, 116, 101, 115, 32, 108, 101, 102, 116]⟩ 2).run Tryf.prog w = .ok [(0, 100, false), (1, 100, false)] w := by kernel_rfl
def fmtB : ByteArray := ⟨#[98, 121, 116, 101, 32, 115, 116, 114, 105, 110, 103, 32, 111, 102, 32, 37, 100, 32, 98, 121, 116, 101, 115, 32, 114, 117, 110, 115, 32, 112, 97, 115, 116, 32, 116, 104, 101, 32, 101, 110, 100, 44, 32, 37, 100, 32, 98, 121, 116, 101, 115, 32, 108, 101, 102, 116]⟩
theorem fmtB0 : FmtStop.printed? ⟨#[98, 121, 116, 101, 32, 115, 116, 114, 105, 110, 103, 32, 111, 102, 32, 37, 100, 32, 98, 121, 116, 101, 115, 32, 114, 117, 110, 115, 32, 112, 97, 115, 116, 32, 116, 104, 101, 32, 101, 110, 100, 44, 32, 37, 100, 32, 98, 121, 116, 101, 115, 32, 108, 101, 102, 116]⟩ 2 = some [(0, 100, false), (1, 100, false)] := by kernel_rfl
theorem fmtBr (w : World) : (FmtDoors.printed ⟨#[98, 121, 116, 101, 32, 115, 116, 114, 105, 110, 103, 32, 111, 102, 32, 37, 100, 32, 98, 121, 116, 101, 115, 32, 114, 117, 110, 115, 32, 112, 97, 115, 116, 32, 116, 104, 101, 32, 101, 110, 100, 44, 32, 37, 100, 32, 98, 121, 116, 101, 115, 32, 108, 101, 102, 116]⟩ 2).run Tryf.prog w = .ok [(0, 100, false), (1, 100, false)] w := by kernel_rfl
def fmtC : ByteArray := ⟨#[37, 100, 32, 105, 116, 101, 109, 115, 32, 100, 111, 32, 110, 111, 116, 32, 102, 105, 116, 32, 105, 110, 32, 116, 104, 101, 32, 37, 100, 32, 98, 121, 116, 101, 115, 32, 108, 101, 102, 116]⟩
theorem fmtC0 : FmtStop.printed? ⟨#[37, 100, 32, 105, 116, 101, 109, 115, 32, 100, 111, 32, 110, 111, 116, 32, 102, 105, 116, 32, 105, 110, 32, 116, 104, 101, 32, 37, 100, 32, 98, 121, 116, 101, 115, 32, 108, 101, 102, 116]⟩ 2 = some [(0, 100, false), (1, 100, false)] := by kernel_rfl
theorem fmtCr (w : World) : (FmtDoors.printed ⟨#[37, 100, 32, 105, 116, 101, 109, 115, 32, 100, 111, 32, 110, 111, 116, 32, 102, 105, 116, 32, 105, 110, 32, 116, 104, 101, 32, 37, 100, 32, 98, 121, 116, 101, 115, 32, 108, 101, 102, 116]⟩ 2).run Tryf.prog w = .ok [(0, 100, false), (1, 100, false)] w := by kernel_rfl

-- type 3: int; type 25: uint32
def shape3 : List UInt8 := [5, 3, 0, 0, 0, 0, 0, 0, 0, 105, 110, 116]
theorem op3_100w (name : String) (x : Int) (w : World) : (FmtStop.operand name true 100 false (.iface 3 (.int .i64 x))).run Tryf.prog w = .ok (shape3, Go.Extern.Stop.digits 8 (x % 2 ^ 64).toNat) w := by kernel_rfl
def shape25 : List UInt8 := [8, 6, 0, 0, 0, 0, 0, 0, 0, 117, 105, 110, 116, 51, 50]
theorem op25_100w (name : String) (x : Int) (w : World) : (FmtStop.operand name true 100 false (.iface 25 (.int .u32 x))).run Tryf.prog w = .ok (shape25, Go.Extern.Stop.digits 8 (x % 2 ^ 64).toNat) w := by kernel_rfl

-- the error type that it makes
theorem ptr52 (w : World) : (FmtStop.ptrTo "errors.errorString").run Tryf.prog w = .ok 52 w := by kernel_rfl
theorem elem52 (w : World) : (elemOf 52).run Tryf.prog w = .ok 54 w := by kernel_rfl
theorem isError52 (w : World) : (FmtDoors.textMethod 52 "Error").run Tryf.prog w = .ok true w := by kernel_rfl
end Go.Proofs.Qxb6609199aFmt
