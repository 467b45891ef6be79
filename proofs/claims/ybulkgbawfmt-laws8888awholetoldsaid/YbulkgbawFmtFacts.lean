/-
  CLOSED FACTS over the given translation for the walks of LawS8888AWhole: the stop fmt.errorf, the one literal format, the two operand types, the error type that fmt.errorf makes (after the guide's CheckFmt.lean, turned to this program).
-/
import Derived.Test.YbulkgbawFmtProg
import Derived.Stop.CallBack
import Derived.Stop.IfaceNil
import GoSem.ClaimData
import Derived.WalkKit
namespace Go.Proofs.YbulkgbawFmt.lawS8888AWhole
open Go.Extern.Stop Go.Stop Go.Extern

theorem call9 (args : Array Value) (w : World) : (callFunc 9 args).run Ybaf.prog w = ((FmtStop.errorf #[9, 32] #[28] args).run Ybaf.prog w).andThen fun v w' => .ok (.value v) w' :=
  run_callFunc_extern Ybaf.func9 (by kernel_rfl) (by kernel_rfl) (by kernel_rfl) (by kernel_rfl) args w

theorem guard (name : String) (w : World) : (FmtStop.guard name).run Ybaf.prog w = .ok () w := by kernel_rfl

-- the format, 3 operands
theorem fmt0 : FmtStop.printed? ⟨#[37, 115, 40, 37, 100, 41, 37, 115, 32, 112, 114, 101, 99, 105, 115, 105, 111, 110, 32, 109, 117, 115, 116, 32, 110, 111, 116, 32, 98, 101, 32, 110, 101, 103, 97, 116, 105, 118, 101]⟩ 3 = some [(0, 115, false), (1, 100, false), (2, 115, false)] := by kernel_rfl
theorem fmt0r (w : World) : (FmtDoors.printed ⟨#[37, 115, 40, 37, 100, 41, 37, 115, 32, 112, 114, 101, 99, 105, 115, 105, 111, 110, 32, 109, 117, 115, 116, 32, 110, 111, 116, 32, 98, 101, 32, 110, 101, 103, 97, 116, 105, 118, 101]⟩ 3).run Ybaf.prog w = .ok [(0, 115, false), (1, 100, false), (2, 115, false)] w := by kernel_rfl

-- type 9: string
def shape9 : List UInt8 := [12, 6, 0, 0, 0, 0, 0, 0, 0, 115, 116, 114, 105, 110, 103]
theorem op9_115 (name : String) (x : ByteArray) (w : World) : (FmtStop.operand name false 115 false (.iface 9 (.string x))).run Ybaf.prog w = .ok (shape9, FmtStop.pack x.data.toList) w := by kernel_rfl
theorem op9_115w (name : String) (x : ByteArray) (w : World) : (FmtStop.operand name true 115 false (.iface 9 (.string x))).run Ybaf.prog w = .ok (shape9, FmtStop.pack x.data.toList) w := by kernel_rfl
-- type 21: int32
def shape21 : List UInt8 := FmtStop.intCode .i32 :: [5, 0, 0, 0, 0, 0, 0, 0, 105, 110, 116, 51, 50]
theorem op21_100 (name : String) (x : Int) (w : World) : (FmtStop.operand name false 100 false (.iface 21 (.int .i32 x))).run Ybaf.prog w = .ok (shape21, Go.Extern.Stop.digits 8 (x % 2 ^ 64).toNat) w := by kernel_rfl
theorem op21_100w (name : String) (x : Int) (w : World) : (FmtStop.operand name true 100 false (.iface 21 (.int .i32 x))).run Ybaf.prog w = .ok (shape21, Go.Extern.Stop.digits 8 (x % 2 ^ 64).toNat) w := by kernel_rfl

-- the error type that fmt.errorf makes without %w
theorem ptr35 (w : World) : (FmtStop.ptrTo "errors.errorString").run Ybaf.prog w = .ok 35 w := by kernel_rfl
theorem elem35 (w : World) : (elemOf 35).run Ybaf.prog w = .ok 37 w := by kernel_rfl
theorem isError35 (w : World) : (FmtDoors.textMethod 35 "Error").run Ybaf.prog w = .ok true w := by kernel_rfl
theorem ptr34 (w : World) : (FmtStop.ptrTo "fmt.wrapError").run Ybaf.prog w = .ok 34 w := by kernel_rfl
theorem elem34 (w : World) : (elemOf 34).run Ybaf.prog w = .ok 56 w := by kernel_rfl
theorem isError34 (w : World) : (FmtDoors.textMethod 34 "Error").run Ybaf.prog w = .ok true w := by kernel_rfl

end Go.Proofs.YbulkgbawFmt.lawS8888AWhole
