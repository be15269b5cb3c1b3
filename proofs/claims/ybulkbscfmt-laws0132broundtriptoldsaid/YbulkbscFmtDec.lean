/-
  wire.Decoder: its contracts.
-/
import Derived.Test.YbulkbscFmtBin
import Derived.Deep.RegionWith
namespace Go.Proofs.YbulkbscFmt
open Go.RowKit Go.Extern.Stop Go.Stop Go.Extern

/-- Block db holds a Decoder: what is left to read, the error, the sentinel. -/
structure Dec (w : World) (db : Nat) (ao : Option Addr) (n c : Nat) (err : Value) : Prop where
  c0 : w.cell? ⟨db, 0, none⟩ = some (.slice ao n c)
  c1 : w.cell? ⟨db, 1, none⟩ = some err
  c2 : ∃ eb s, w.cell? ⟨db, 2, none⟩ = some (.iface 47 (.pointer (some ⟨eb, 0, none⟩))) ∧ w.cell? ⟨eb, 0, none⟩ = some (.string s) ∧ eb ≠ db
  f0 : w.frozen? ⟨db, 0, none⟩ = false
  f1 : w.frozen? ⟨db, 1, none⟩ = false

section
attribute [local go_sem] call22 guard fmtCr op9_115w ptr60 elem60 isError47
set_option maxHeartbeats 400000 in
/-- fmt.Errorf, two operands: the sentinel under w, a string. -/
theorem errorf_w (F : Interp) (vb eb : Nat) (s : ByteArray) (w : World) (hF : F.answers w.tape) (h0 : w.cell? ⟨vb, 0, none⟩ = some (.iface 47 (.pointer (some ⟨eb, 0, none⟩)))) (h1 : ∃ t, w.cell? ⟨vb, 1, none⟩ = some (.iface 9 (.string t))) (hs : w.cell? ⟨eb, 0, none⟩ = some (.string s)) :
    Calls Ybaf.prog 18 #[.string fC, .slice (some ⟨vb, 0, none⟩) 2 2] w fun e w' => (∃ a, e = .returned (.iface 60 (.pointer (some a)))) ∧ Below w.heap.size w w' := by
  obtain ⟨t, h1⟩ := h1
  have hF' := answers_open hF
  have hop := fun (name : String) => opPlain47_119w name ⟨eb, 0, none⟩ s w hs
  go_enter Ybaf.func18, Ybaf.ntmps18
  go_wp2
  go_ret
  exact ⟨⟨_, rfl⟩, ((Below.refl _ _).alloc (Nat.le_refl _) _).drew⟩
end
end Go.Proofs.YbulkbscFmt
