/-
  (*Decoder).Fail (function 14) at the two formats of this law's road.
-/
import Derived.Test.YbulkbscFmtDec
namespace Go.Proofs.YbulkbscFmt
open Go.RowKit Go.Extern.Stop Go.Stop Go.Extern

attribute [local go_sem] call19 guard fmtA fmtB op3_100 act3_100

theorem two0 (w : World) (a b : Value) (T : TypeId) : (w.alloc (.cells #[a, b] T)).cell? ⟨w.heap.size, 0, none⟩ = some a := by simp
theorem two1 (w : World) (a b : Value) (T : TypeId) : (w.alloc (.cells #[a, b] T)).cell? ⟨w.heap.size, 1, none⟩ = some b := by simp

/-- What stands behind the sentinel's block and fmt.Errorf's. -/
theorem fail_keep {db : Nat} {w w3 : World} {o : Obj} (hdb : db < w.heap.size) (hb : Below (w.alloc o).heap.size (w.alloc o).drew.drew w3) :
    (∀ j, w3.cell? ⟨db, j, none⟩ = w.cell? ⟨db, j, none⟩) ∧ (∀ j, w3.frozen? ⟨db, j, none⟩ = w.frozen? ⟨db, j, none⟩) ∧ Below w.heap.size w w3 := by
  have hb' : Below (w.heap.size + 1) (w.alloc o) w3 := by
    have e : (w.alloc o).heap.size = w.heap.size + 1 := by simp
    rw [e] at hb
    exact ⟨hb.os, hb.tape, hb.output, hb.size, hb.block⟩
  have h0 : Below w.heap.size w w3 := ((Below.refl _ w).alloc (Nat.le_refl _) o).trans (hb'.mono (by omega))
  exact ⟨fun j => h0.cell (p := ⟨db, j, none⟩) hdb, fun j => h0.frozen (p := ⟨db, j, none⟩) hdb, h0⟩

theorem fail_close {db n c : Nat} {ao : Option Addr} {w w3 : World} (h : Dec w db ao n c .nilIface)
    (k : (∀ j, w3.cell? ⟨db, j, none⟩ = w.cell? ⟨db, j, none⟩) ∧ (∀ j, w3.frozen? ⟨db, j, none⟩ = w.frozen? ⟨db, j, none⟩) ∧ Below w.heap.size w w3) (E : Value) :
    Dec (w3.setCell ⟨db, 1, none⟩ E) db ao n c E ∧ w.grownBy (w3.setCell ⟨db, 1, none⟩ E) (some db) := by
  obtain ⟨kc, kf, hb⟩ := k
  obtain ⟨eb, s, c2, hs, hne⟩ := h.c2
  refine ⟨⟨?_, World.cell?_setCell_same w3 _ _ ((kc 1).trans h.c1), ⟨eb, s, ?_, ?_, hne⟩, ?_, ?_⟩, ⟨hb.os, hb.tape, hb.output, by simpa [World.setCell] using hb.size, fun k hk hne => ?_⟩⟩
  · rw [World.cell?_setCell_other w3 ⟨db, 1, none⟩ ⟨db, 0, none⟩ _ (by simp)]; exact (kc 0).trans h.c0
  · rw [World.cell?_setCell_other w3 ⟨db, 1, none⟩ ⟨db, 2, none⟩ _ (by simp)]; exact (kc 2).trans c2
  · rw [World.cell?_setCell_other w3 ⟨db, 1, none⟩ ⟨eb, 0, none⟩ _ (by intro e; exact hne (congrArg Addr.block e).symm)]; exact (hb.cell (p := ⟨eb, 0, none⟩) (World.block_lt_of_cell? w _ hs)).trans hs
  · rw [World.frozen?_setCell]; exact (kf 0).trans h.f0
  · rw [World.frozen?_setCell]; exact (kf 1).trans h.f1
  · rw [Below.heap_setCell _ _ _ _ (fun e => hne (by rw [e]))]; exact hb.block k hk

set_option maxHeartbeats 1000000 in
theorem failA (F : Interp) (db n c : Nat) (ao : Option Addr) (w : World) (hF : F.answers w.tape) (h : Dec w db ao n c .nilIface) :
    Calls Ybaf.prog 14 #[.pointer (some ⟨db, 0, none⟩), .string fA, .slice none 0 0] w fun e w' => e = .returned (.tuple #[]) ∧ (∃ a, Dec w' db ao n c (.iface 60 (.pointer (some a)))) ∧ w.grownBy w' (some db) := by
  have hF' := answers_open hF
  have c1 := h.c1
  have f1 := h.f1
  obtain ⟨eb, s, c2, hs, hne⟩ := h.c2
  have hdb : db < w.heap.size := World.block_lt_of_cell? w _ c1
  go_enter Ybaf.func14, Ybaf.ntmps14
  go_wp2_with fail
  go_region_with (first | (apply rows_value nextTurns; case hr => (go_simp; exact ⟨rfl, rfl⟩)) | (go_at_call 18; refine (errorf_w F _ eb s _ ?_ ?_ ?_ ?_).mono ?_; exact hF; exact two0 _ _ _ _; exact ⟨_, two1 _ _ _ _⟩; exact cell?_alloc_old _ hs; rintro e w3 ⟨⟨a3, rfl⟩, hb3⟩; have k3 := fail_keep hdb hb3; have q1 : w3.cell? ⟨db, 1, none⟩ = some .nilIface := (k3.1 _).trans c1; have q2 : w3.frozen? ⟨db, 1, none⟩ = false := (k3.2.1 _).trans f1))
  all_goals
    go_end0
    exact ⟨rfl, ⟨_, (fail_close h k3 _).1⟩, (fail_close h k3 _).2⟩

set_option maxHeartbeats 1000000 in
theorem failB (F : Interp) (x y : Int) (sb db n c : Nat) (ao : Option Addr) (w : World) (hF : F.answers w.tape) (h : Dec w db ao n c .nilIface) (v0 : w.cell? ⟨sb, 0, none⟩ = some (.iface 3 (.int .i64 x))) (v1 : w.cell? ⟨sb, 1, none⟩ = some (.iface 3 (.int .i64 y))) :
    Calls Ybaf.prog 14 #[.pointer (some ⟨db, 0, none⟩), .string fB, .slice (some ⟨sb, 0, none⟩) 2 2] w fun e w' => e = .returned (.tuple #[]) ∧ (∃ a, Dec w' db ao n c (.iface 60 (.pointer (some a)))) ∧ w.grownBy w' (some db) := by
  have hF' := answers_open hF
  have c1 := h.c1
  have f1 := h.f1
  obtain ⟨eb, s, c2, hs, hne⟩ := h.c2
  have hdb : db < w.heap.size := World.block_lt_of_cell? w _ c1
  go_enter Ybaf.func14, Ybaf.ntmps14
  go_wp2_with fail
  go_region_with (first | (apply rows_value nextTurns; case hr => (go_simp; exact ⟨rfl, rfl⟩)) | (go_at_call 18; refine (errorf_w F _ eb s _ ?_ ?_ ?_ ?_).mono ?_; exact hF; exact two0 _ _ _ _; exact ⟨_, two1 _ _ _ _⟩; exact cell?_alloc_old _ hs; rintro e w3 ⟨⟨a3, rfl⟩, hb3⟩; have k3 := fail_keep hdb hb3; have q1 : w3.cell? ⟨db, 1, none⟩ = some .nilIface := (k3.1 _).trans c1; have q2 : w3.frozen? ⟨db, 1, none⟩ = false := (k3.2.1 _).trans f1))
  all_goals
    go_end0
    exact ⟨rfl, ⟨_, (fail_close h k3 _).1⟩, (fail_close h k3 _).2⟩
end Go.Proofs.YbulkbscFmt
