/-
  (*Decoder).Uint16 (13), Uint64 (16), Bytes (20), Str (15).
-/
import Derived.Test.YbulkbscFmtTake
import Derived.Laws.IdiomStrings
import Derived.Lib.BufferRead
namespace Go.Proofs.YbulkbscFmt
open Go.RowKit Go.Extern.Stop Go.Stop Go.Extern

theorem grown_below {w w1 w2 : World} {row : Option Nat} (h : w.grownBy w1 row) (hb : Below w1.heap.size w1 w2) : w.grownBy w2 row :=
  ⟨hb.os.trans h.os, hb.tape.trans h.tape, hb.output.trans h.output, Nat.le_trans h.size hb.size, fun k hk hr => (hb.block k (Nat.lt_of_lt_of_le hk h.size)).trans (h.block k hk hr)⟩
theorem grown_trans {w w1 w2 : World} {row : Option Nat} (h : w.grownBy w1 row) (h' : w1.grownBy w2 row) : w.grownBy w2 row :=
  ⟨h'.os.trans h.os, h'.tape.trans h.tape, h'.output.trans h.output, Nat.le_trans h.size h'.size, fun k hk hr => (h'.block k (Nat.lt_of_lt_of_le hk h.size) hr).trans (h.block k hk hr)⟩
theorem nil24 (w : World) (a : Option Addr) (n c : Nat) : (binOp .eql 24 (.slice a n c) (.slice none 0 0)).run Ybaf.prog w = .ok (.bool a.isNone) w := Lib.run_eql_slice_nil (P := Ybaf.prog) w 24 5 a n c 0 0 Ybaf.underlying24

set_option maxHeartbeats 400000 in
theorem u16_rd (db g o c : Nat) (b0 b1 : UInt8) (bs : List UInt8) (w : World) (h : Rd w db (b0 :: b1 :: bs) g o c) :
    Calls Ybaf.prog 13 #[.pointer (some ⟨db, 0, none⟩)] w fun e w' => e = .returned (.int .u16 (Lib.beNat [b0, b1])) ∧ RdE w' db bs ∧ w.grownBy w' (some db) := by
  have q24 := nil24
  go_enter Ybaf.func13, Ybaf.ntmps13
  go_wp2_with fail
  refine (take_rd db g o c 2 _ _ h (by simp)).mono ?_
  rintro e w1 ⟨rfl, h1, hg1, hc1⟩
  go_wp2_with fail
  refine (be16 g o 2 c b0 b1 _ (by omega) (by simpa using hc1 0 b0 rfl) (hc1 1 b1 rfl)).mono ?_
  rintro e w2 ⟨rfl, hb2⟩
  go_wp2
  go_ret
  exact ⟨rfl, ⟨_, _, _, by simpa using h1.below hb2⟩, grown_below hg1 hb2⟩

set_option maxHeartbeats 400000 in
theorem u16_short (F : Interp) (db n c : Nat) (ao : Option Addr) (w : World) (hF : F.answers w.tape) (h : Dec w db ao n c .nilIface) (hn : n < 2) :
    Calls Ybaf.prog 13 #[.pointer (some ⟨db, 0, none⟩)] w fun e w' => e = .returned (.int .u16 0) ∧ (∃ a, Dec w' db ao n c (.iface 60 (.pointer (some a)))) ∧ w.grownBy w' (some db) := by
  have q24 := nil24
  go_enter Ybaf.func13, Ybaf.ntmps13
  go_wp2_with fail
  refine (take_short F db n c ao 2 _ hF h (by omega)).mono ?_
  rintro e w1 ⟨rfl, h1, hg1⟩
  go_wp2
  go_ret
  exact ⟨rfl, h1, hg1⟩

set_option maxHeartbeats 400000 in
theorem u16_err (db n c : Nat) (ao : Option Addr) (a : Addr) (w : World) (h : Dec w db ao n c (.iface 60 (.pointer (some a)))) :
    Calls Ybaf.prog 13 #[.pointer (some ⟨db, 0, none⟩)] w fun e w' => e = .returned (.int .u16 0) ∧ w' = w := by
  have q24 := nil24
  go_enter Ybaf.func13, Ybaf.ntmps13
  go_wp2_with fail
  refine (take_err db n c ao a 2 _ h).mono ?_
  rintro e w1 ⟨rfl, rfl⟩
  go_wp2
  go_ret
  exact ⟨rfl, rfl⟩

set_option maxHeartbeats 400000 in
theorem u64_rd (db g o c : Nat) (b0 b1 b2 b3 b4 b5 b6 b7 : UInt8) (bs : List UInt8) (w : World) (h : Rd w db (b0 :: b1 :: b2 :: b3 :: b4 :: b5 :: b6 :: b7 :: bs) g o c) :
    Calls Ybaf.prog 16 #[.pointer (some ⟨db, 0, none⟩)] w fun e w' => e = .returned (.int .u64 (Lib.beNat [b0, b1, b2, b3, b4, b5, b6, b7])) ∧ RdE w' db bs ∧ w.grownBy w' (some db) := by
  have q24 := nil24
  go_enter Ybaf.func16, Ybaf.ntmps16
  go_wp2_with fail
  refine (take_rd db g o c 8 _ _ h (by simp)).mono ?_
  rintro e w1 ⟨rfl, h1, hg1, hc1⟩
  go_wp2_with fail
  refine (be64 g o 8 c b0 b1 b2 b3 b4 b5 b6 b7 _ (by omega) (by simpa using hc1 0 b0 rfl) (hc1 1 b1 rfl) (hc1 2 b2 rfl) (hc1 3 b3 rfl) (hc1 4 b4 rfl) (hc1 5 b5 rfl) (hc1 6 b6 rfl) (hc1 7 b7 rfl)).mono ?_
  rintro e w2 ⟨rfl, hb2⟩
  go_wp2
  go_ret
  exact ⟨rfl, ⟨_, _, _, by simpa using h1.below hb2⟩, grown_below hg1 hb2⟩

set_option maxHeartbeats 400000 in
theorem u64_short (F : Interp) (db n c : Nat) (ao : Option Addr) (w : World) (hF : F.answers w.tape) (h : Dec w db ao n c .nilIface) (hn : n < 8) :
    Calls Ybaf.prog 16 #[.pointer (some ⟨db, 0, none⟩)] w fun e w' => e = .returned (.int .u64 0) ∧ (∃ a, Dec w' db ao n c (.iface 60 (.pointer (some a)))) ∧ w.grownBy w' (some db) := by
  have q24 := nil24
  go_enter Ybaf.func16, Ybaf.ntmps16
  go_wp2_with fail
  refine (take_short F db n c ao 8 _ hF h (by omega)).mono ?_
  rintro e w1 ⟨rfl, h1, hg1⟩
  go_wp2
  go_ret
  exact ⟨rfl, h1, hg1⟩

set_option maxHeartbeats 400000 in
theorem u64_err (db n c : Nat) (ao : Option Addr) (a : Addr) (w : World) (h : Dec w db ao n c (.iface 60 (.pointer (some a)))) :
    Calls Ybaf.prog 16 #[.pointer (some ⟨db, 0, none⟩)] w fun e w' => e = .returned (.int .u64 0) ∧ w' = w := by
  have q24 := nil24
  go_enter Ybaf.func16, Ybaf.ntmps16
  go_wp2_with fail
  refine (take_err db n c ao a 8 _ h).mono ?_
  rintro e w1 ⟨rfl, rfl⟩
  go_wp2
  go_ret
  exact ⟨rfl, rfl⟩
end Go.Proofs.YbulkbscFmt
