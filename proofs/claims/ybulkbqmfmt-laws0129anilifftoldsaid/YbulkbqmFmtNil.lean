/-
  THE WALK OF LawS0129ANilIff (function 3).
-/
import Derived.Test.YbulkbqmFmtWalks
import Derived.BigQuiet
import Derived.Deep.QuietTactic
namespace Go.Proofs.YbulkbqmFmt
open Go.RowKit Go.Extern.Stop Go.Stop Go.Extern

set_option maxHeartbeats 400000 in
theorem nil_big (x : Option Addr) (n c : Nat) (m : Int) (s : ByteArray) (w : World) (h : 1024 < (n : Int)) :
    Calls Ybaf.prog 3 #[.slice x n c, .int .u8 m, .string s] w fun e w' => e = .returned (.bool true) ∧ Below w.heap.size w w' := by
  go_enter Ybaf.func3, Ybaf.ntmps3
  go_wp2
  go_ret
  exact ⟨rfl, Below.refl _ _⟩

set_option maxHeartbeats 400000 in
theorem nil_empty (F : Interp) (x : Option Addr) (c : Nat) (m : Int) (s : ByteArray) (w : World) (hF : F.answers w.tape) :
    Calls Ybaf.prog 3 #[.slice x 0 c, .int .u8 m, .string s] w fun e w' => e = .returned (.bool true) ∧ Below w.heap.size w w' := by
  go_enter Ybaf.func3, Ybaf.ntmps3
  go_wp2_with (go_at_call 5; refine (check_empty F x c m s _ (by exact hF)).mono ?_; rintro e w1 ⟨⟨a1, rfl⟩, hb⟩)
  go_ret
  exact ⟨rfl, hb⟩

set_option maxHeartbeats 400000 in
theorem nil_bad (F : Interp) (a : Addr) (n c : Nat) (b m : Int) (s : ByteArray) (w : World) (hF : F.answers w.tape) (hn : ((n : Int) == 0) = false) (hn' : 0 < (n : Int)) (h : ¬ 1024 < (n : Int)) (hc : w.cell? a = some (.int .u8 b)) (hlt : a.block < w.heap.size) (hbm : (b != m) = true) (hbm' : (b == m) = false) :
    Calls Ybaf.prog 3 #[.slice (some a) n c, .int .u8 m, .string s] w fun e w' => e = .returned (.bool true) ∧ Below w.heap.size w w' := by
  go_enter Ybaf.func3, Ybaf.ntmps3
  go_wp2_with fail
  refine (check_bad F a n c b m s _ (by exact hF) hn hn' hc hbm).mono ?_
  rintro e w1 ⟨⟨a1, rfl⟩, hb⟩
  have hc1 : w1.cell? a = some (.int .u8 b) := by rw [hb.cell hlt]; exact hc
  go_wp2
  go_ret
  exact ⟨rfl, hb⟩

set_option maxHeartbeats 400000 in
theorem nil_ok (a : Addr) (n c : Nat) (b m : Int) (s : ByteArray) (w : World) (hn : ((n : Int) == 0) = false) (hn' : 0 < (n : Int)) (h : ¬ 1024 < (n : Int)) (hc : w.cell? a = some (.int .u8 b)) (hbm : (b != m) = false) (hbm' : (b == m) = true) :
    Calls Ybaf.prog 3 #[.slice (some a) n c, .int .u8 m, .string s] w fun e w' => e = .returned (.bool true) ∧ Below w.heap.size w w' := by
  go_enter Ybaf.func3, Ybaf.ntmps3
  go_wp2_with fail
  refine (check_ok a n c b m s _ hn hn' hc hbm).mono ?_
  rintro e w1 ⟨rfl, rfl⟩
  go_wp2
  go_ret
  exact ⟨rfl, Below.refl _ _⟩

end Go.Proofs.YbulkbqmFmt
