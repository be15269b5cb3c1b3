/-
  THE MAP map[heldBy]bool: its key's law; what a key reads as; a look-up at bool elements.
-/
import Derived.Test.YbulkbraProg
import Derived.Maps.OwnSet
import Derived.DeepKeys4
import Derived.KernelRfl
namespace Go
open Go.Maps (Keyed)

theorem plainElem_bool_inv {H : Type} {P : Program} {e : TypeId} (he : P.underlying e = some .bool) {v : Value} {z : DataW H × List MemPlace} (h : plainElem P e v = some z) : ∃ c : Bool, v = .bool c ∧ z = (.lit (.bool c), []) := by
  unfold plainElem at h
  rw [he] at h
  cases v <;> simp at h
  exact ⟨_, rfl, h.symm⟩

theorem World.ownsMap.lookup_bool {H : Type} {P : Program} {k : TypeId} {w : World} {b n : Nat} {D : DataW H} {t e : TypeId} (h : w.ownsMap P k (plainElem P e) b n D) (K : Keyed P k) (ht : P.underlying t = some (.map k e)) (he : P.underlying e = some .bool) (hz : (zeroValue e).run P w = .ok (.bool false) w)
    {key : Value} {kl : Lit} (hkey : keyOf P k key = some kl) : ∃ c : Bool, (Instr.lookup t (.map (some b)) key false).run P w = .ok (.bool c) w ∧ D.atKey kl (.lit (.bool false)) = .lit (.bool c) := by
  obtain ⟨v, ps, hrun, hv⟩ := h.lookup K ht hz (plainElem_bool he false) hkey
  obtain ⟨c, rfl, hc⟩ := plainElem_bool_inv he hv
  simp only [Prod.mk.injEq] at hc
  exact ⟨c, hrun, hc.1⟩
end Go
namespace Go.Proofs.Ybulkbra
open Go.Maps

theorem laidOut : laidOutB Yba.prog = true := by kernel_rfl
theorem own : ownKnob Yba.prog.godebug = none := by kernel_rfl
theorem row47 : 47 < Yba.prog.types.size := of_decide_eq_true (by kernel_rfl)
theorem wide47 : (match Yba.prog.underlying 47 with | some (.array _ _) | some (.struct _) => true | _ => false) = true := by kernel_rfl
theorem law47 : Keyed Yba.prog 47 := Keyed.of_law (deep_law_laid laidOut (m := 2) (by omega) row47 (by kernel_rfl) wide47)
theorem zero4 (w : World) : (zeroValue 4).run Yba.prog w = .ok (.bool false) w := by kernel_rfl

/-- What the key heldBy{i, s} reads as. -/
def kl (i : Int) (s : ByteArray) : Lit := .string (keyBytes [.int .i64 i, .string s.data.toList])
theorem keyType47 : Yba.prog.keyType 47 = true := by kernel_rfl
theorem cells47 : Yba.prog.cellsOf 47 = 2 := by kernel_rfl
theorem cells3 : Yba.prog.cellsOf 3 = 1 := by kernel_rfl
theorem cells9 : Yba.prog.cellsOf 9 = 1 := by kernel_rfl
theorem size_types : Yba.prog.types.size = 106 := by kernel_rfl
theorem lits47 (d : Nat) {i : Int} {s : ByteArray} (wi : (Lit.int .i64 i).wf = true) (hs : s.size ≤ maxLen) : Yba.prog.keyLits (d + 2) 47 [.int .i64 i, .string s] = some [.int .i64 i, .string s.data.toList] := by
  simp [Program.keyLits, cells47, cells3, cells9, Yba.underlying47, Yba.underlying3, Yba.underlying9, wi, hs]
theorem key_of {i : Int} {s : ByteArray} (wi : (Lit.int .i64 i).wf = true) (hs : s.size ≤ maxLen) : keyOf Yba.prog 47 (.agg #[.int .i64 i, .string s]) = some (kl i s) := by
  have h : Yba.prog.keyLits (Yba.prog.types.size + 1) 47 [.int .i64 i, .string s] = some [.int .i64 i, .string s.data.toList] := by rw [size_types]; exact lits47 105 wi hs
  simp only [keyOf, Yba.underlying47, keyType47, Value.formed, Value.cells, h, cells47]
  simp [kl]

theorem kl_inj {i j : Int} {s t : ByteArray} (wi : (Lit.int .i64 i).wf = true) (hs : s.size ≤ maxLen) (wj : (Lit.int .i64 j).wf = true) (ht : t.size ≤ maxLen) (h : kl i s = kl j t) : i = j ∧ s = t := by
  have h1 := key_of wi hs
  have h2 := key_of wj ht
  rw [← h] at h2
  have := law47.inj h1 h2
  simpa using this
theorem kl_key {i : Int} {s : ByteArray} (wi : (Lit.int .i64 i).wf = true) (hs : s.size ≤ maxLen) : WideAt.IsKeyLit (kl i s) := law47.key (key_of wi hs)
end Go.Proofs.Ybulkbra
