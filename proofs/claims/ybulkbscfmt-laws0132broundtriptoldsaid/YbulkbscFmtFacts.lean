/-
  THE CLOSED FACTS FOR A WALK OVER fmt.Sprintf (a stop that calls) AND fmt.errorf (a plain stop), at this dump's numbers (after the guide's CheckFmt, LevelsFmt).
-/
import Derived.Test.YbulkbscFmtProg
import Derived.Stop.CallBack
import Derived.Stop.IfaceNil
import GoSem.ClaimData
namespace Go.Proofs.YbulkbscFmt
open Go.Extern.Stop Go.Stop Go.Extern

theorem call19 (args : Array Value) (w : World) : (callFunc 19 args).run Ybaf.prog w = (FmtCalls.sprintf #[9, 55] #[9] args).run Ybaf.prog w :=
  run_callFunc_next Ybaf.func19 (by kernel_rfl) (by kernel_rfl) (by kernel_rfl) args w
theorem call22 (args : Array Value) (w : World) : (callFunc 22 args).run Ybaf.prog w = ((FmtStop.errorf #[9, 55] #[35] args).run Ybaf.prog w).andThen fun v w' => .ok (.value v) w' :=
  run_callFunc_extern Ybaf.func22 (by kernel_rfl) (by kernel_rfl) (by kernel_rfl) (by kernel_rfl) args w
theorem guard (name : String) (w : World) : (FmtStop.guard name).run Ybaf.prog w = .ok () w := by kernel_rfl
theorem nextTurns : Extern.next FmtCalls.turnsRow = some (FmtCalls.begun #[] #[]) := by kernel_rfl
abbrev fA : ByteArray := ⟨#[98, 111, 100, 121, 32, 101, 110, 100, 115, 32, 101, 97, 114, 108, 121]⟩
abbrev fB : ByteArray := ⟨#[37, 100, 32, 99, 111, 117, 110, 116, 115, 32, 105, 110, 32, 37, 100, 32, 98, 121, 116, 101, 115]⟩
abbrev fC : ByteArray := ⟨#[37, 119, 58, 32, 37, 115]⟩
theorem fmtA : FmtStop.printed? ⟨#[98, 111, 100, 121, 32, 101, 110, 100, 115, 32, 101, 97, 114, 108, 121]⟩ 0 = some [] := by kernel_rfl
theorem fmtB : FmtStop.printed? ⟨#[37, 100, 32, 99, 111, 117, 110, 116, 115, 32, 105, 110, 32, 37, 100, 32, 98, 121, 116, 101, 115]⟩ 2 = some [(0, 100, false), (1, 100, false)] := by kernel_rfl
theorem fmtCr (w : World) : (FmtDoors.printed ⟨#[37, 119, 58, 32, 37, 115]⟩ 2).run Ybaf.prog w = .ok [(0, 119, false), (1, 115, false)] w := by kernel_rfl
def shape9 : List UInt8 := [12, 6, 0, 0, 0, 0, 0, 0, 0, 115, 116, 114, 105, 110, 103]
theorem op9_115w (name : String) (x : ByteArray) (w : World) : (FmtStop.operand name true 115 false (.iface 9 (.string x))).run Ybaf.prog w = .ok (shape9, FmtStop.pack x.data.toList) w := by kernel_rfl
def shape3 : List UInt8 := [5, 3, 0, 0, 0, 0, 0, 0, 0, 105, 110, 116]
theorem op3_100 (name : String) (x : Int) (w : World) : (FmtStop.operand name false 100 false (.iface 3 (.int .i64 x))).run Ybaf.prog w = .ok (shape3, Go.Extern.Stop.digits 8 (x % 2 ^ 64).toNat) w := by kernel_rfl
theorem act3_100 (name : String) (x : Value) (w : World) : (FmtCalls.act name false 100 false (.iface 3 x)).run Ybaf.prog w = .ok (.closed false) w := by kernel_rfl
theorem ptr60 (w : World) : (FmtStop.ptrTo "fmt.wrapError").run Ybaf.prog w = .ok 60 w := by kernel_rfl
theorem elem60 (w : World) : (elemOf 60).run Ybaf.prog w = .ok 77 w := by kernel_rfl
theorem isError47 (w : World) : (FmtDoors.textMethod 47 "Error").run Ybaf.prog w = .ok true w := by kernel_rfl
theorem opPlain47_119w (name : String) (a : Addr) (s : ByteArray) (w : World) (hc : w.cell? a = some (.string s)) :
    (FmtStop.operand name true 119 false (.iface 47 (.pointer (some a)))).run Ybaf.prog w = .ok (14 :: FmtStop.pack Ybaf.t47.str.toUTF8.data.toList, s.data.toList) w := by
  have h1 : (typeStr 47).run Ybaf.prog w = .ok Ybaf.t47.str w := by kernel_rfl
  have d2 : Ybaf.t47.desc = .pointer 49 := rfl
  have d3 : Ybaf.t49.desc = .named "errors.errorString" 48 := rfl
  simp [FmtStop.operand, h1, d2, d3, run_load, hc]
theorem cells24 : Ybaf.prog.cellsOf 24 = 1 := by kernel_rfl
theorem cells5 : Ybaf.prog.cellsOf 5 = 1 := by kernel_rfl
theorem own : ownKnob Ybaf.prog.godebug = none := by kernel_rfl
theorem laidOut : laidOutB Ybaf.prog = true := by kernel_rfl
end Go.Proofs.YbulkbscFmt
