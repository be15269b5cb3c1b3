/-
  THE CLOSED FACTS FOR A WALK OVER fmt.errorf, STOPPED, at this dump's numbers (after the guide's CheckFmt).
-/
import Derived.Test.YbulkbqmFmtProg
import Derived.Stop.CallBack
import Derived.Stop.IfaceNil
import GoSem.ClaimData
namespace Go.Proofs.YbulkbqmFmt
open Go.Extern.Stop Go.Stop Go.Extern

theorem call7 (args : Array Value) (w : World) : (callFunc 7 args).run Ybaf.prog w = ((FmtStop.errorf #[9, 29] #[24] args).run Ybaf.prog w).andThen fun v w' => .ok (.value v) w' :=
  run_callFunc_extern Ybaf.func7 (by kernel_rfl) (by kernel_rfl) (by kernel_rfl) (by kernel_rfl) args w
theorem guard (name : String) (w : World) : (FmtStop.guard name).run Ybaf.prog w = .ok () w := by kernel_rfl
theorem fmtA : FmtStop.printed? ⟨#[99, 97, 117, 115, 97, 108, 105, 110, 101, 58, 32, 37, 115, 32, 105, 115, 32, 101, 109, 112, 116, 121]⟩ 1 = some [(0, 115, false)] := by kernel_rfl
theorem fmtAr (w : World) : (FmtDoors.printed ⟨#[99, 97, 117, 115, 97, 108, 105, 110, 101, 58, 32, 37, 115, 32, 105, 115, 32, 101, 109, 112, 116, 121]⟩ 1).run Ybaf.prog w = .ok [(0, 115, false)] w := by kernel_rfl
theorem fmtB : FmtStop.printed? ⟨#[99, 97, 117, 115, 97, 108, 105, 110, 101, 58, 32, 37, 115, 32, 115, 116, 97, 114, 116, 115, 32, 119, 105, 116, 104, 32, 98, 121, 116, 101, 32, 48, 120, 37, 48, 50, 120, 44, 32, 110, 111, 116, 32, 48, 120, 37, 48, 50, 120]⟩ 3 = some [(0, 115, false), (1, 120, false), (2, 120, false)] := by kernel_rfl
theorem fmtBr (w : World) : (FmtDoors.printed ⟨#[99, 97, 117, 115, 97, 108, 105, 110, 101, 58, 32, 37, 115, 32, 115, 116, 97, 114, 116, 115, 32, 119, 105, 116, 104, 32, 98, 121, 116, 101, 32, 48, 120, 37, 48, 50, 120, 44, 32, 110, 111, 116, 32, 48, 120, 37, 48, 50, 120]⟩ 3).run Ybaf.prog w = .ok [(0, 115, false), (1, 120, false), (2, 120, false)] w := by kernel_rfl
def shape9 : List UInt8 := [12, 6, 0, 0, 0, 0, 0, 0, 0, 115, 116, 114, 105, 110, 103]
theorem op9_115w (name : String) (x : ByteArray) (w : World) : (FmtStop.operand name true 115 false (.iface 9 (.string x))).run Ybaf.prog w = .ok (shape9, FmtStop.pack x.data.toList) w := by kernel_rfl
def shape5 : List UInt8 := FmtStop.intCode .u8 :: FmtStop.pack [117, 105, 110, 116, 56]
theorem op5_120w (name : String) (x : Int) (w : World) : (FmtStop.operand name true 120 false (.iface 5 (.int .u8 x))).run Ybaf.prog w = .ok (shape5, Go.Extern.Stop.digits 8 (x % 2 ^ 64).toNat) w := by kernel_rfl
theorem ptr32 (w : World) : (FmtStop.ptrTo "errors.errorString").run Ybaf.prog w = .ok 32 w := by kernel_rfl
theorem elem32 (w : World) : (elemOf 32).run Ybaf.prog w = .ok 34 w := by kernel_rfl
theorem isError32' (w : World) : (FmtDoors.textMethod 32 "Error").run Ybaf.prog w = .ok true w := by kernel_rfl
theorem cells22 : Ybaf.prog.cellsOf 22 = 1 := by kernel_rfl
theorem cells5 : Ybaf.prog.cellsOf 5 = 1 := by kernel_rfl
theorem own : ownKnob Ybaf.prog.godebug = none := by kernel_rfl
theorem laidOut : laidOutB Ybaf.prog = true := by kernel_rfl
end Go.Proofs.YbulkbqmFmt
