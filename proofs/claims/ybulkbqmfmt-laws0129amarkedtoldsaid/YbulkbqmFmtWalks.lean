/-
  THE WALKS: checkMark (function 5) in three ways; fmt's text is left to F.
-/
import Derived.Test.YbulkbqmFmtRows
import Derived.Test.YbulkbqmFmtFacts
import Derived.WalkKit
import Derived.WalkSpells
import Derived.WalkLawsBesides
namespace Go.Proofs.YbulkbqmFmt
open Go.RowKit Go.Extern.Stop Go.Stop Go.Extern
attribute [local go_sem] call7 guard fmtA fmtAr fmtB fmtBr op9_115w op5_120w ptr32 elem32 isError32'

set_option maxHeartbeats 400000 in
theorem check_empty (F : Interp) (x : Option Addr) (c : Nat) (m : Int) (s : ByteArray) (w : World) (hF : F.answers w.tape) :
    Calls Ybaf.prog 5 #[.slice x 0 c, .int .u8 m, .string s] w fun e w' => (∃ a, e = .returned (.iface 32 (.pointer (some a)))) ∧ Below w.heap.size w w' := by
  have hF' := answers_open hF
  go_enter Ybaf.func5, Ybaf.ntmps5
  go_wp2
  go_ret
  exact ⟨⟨_, rfl⟩, (((Below.refl _ _).alloc (Nat.le_refl _) _).alloc (by simp) _).drew⟩

set_option maxHeartbeats 400000 in
theorem check_bad (F : Interp) (a : Addr) (n c : Nat) (b m : Int) (s : ByteArray) (w : World) (hF : F.answers w.tape) (hn : ((n : Int) == 0) = false) (hn' : 0 < (n : Int)) (hc : w.cell? a = some (.int .u8 b)) (hbm : (b != m) = true) :
    Calls Ybaf.prog 5 #[.slice (some a) n c, .int .u8 m, .string s] w fun e w' => (∃ a, e = .returned (.iface 32 (.pointer (some a)))) ∧ Below w.heap.size w w' := by
  have hF' := answers_open hF
  go_enter Ybaf.func5, Ybaf.ntmps5
  go_wp2
  go_ret
  exact ⟨⟨_, rfl⟩, (((Below.refl _ _).alloc (Nat.le_refl _) _).alloc (by simp) _).drew⟩

set_option maxHeartbeats 400000 in
theorem check_ok (a : Addr) (n c : Nat) (b m : Int) (s : ByteArray) (w : World) (hn : ((n : Int) == 0) = false) (hn' : 0 < (n : Int)) (hc : w.cell? a = some (.int .u8 b)) (hbm : (b != m) = false) :
    Calls Ybaf.prog 5 #[.slice (some a) n c, .int .u8 m, .string s] w fun e w' => e = .returned .nilIface ∧ w' = w := by
  go_enter Ybaf.func5, Ybaf.ntmps5
  go_wp2
  go_ret
  exact ⟨rfl, rfl⟩

end Go.Proofs.YbulkbqmFmt
