/-
  Rows.LawS0130AScriptSaid, PROVED.
-/
import Derived.Test.YbulkbraScript
import Derived.Deep.SlicePairs
import Derived.SizedLaws
import Derived.Test.YbulkbraRows
import Derived.WalkKit
import Derived.ProofKit
import Derived.OpenShut
import Derived.ShutString
namespace Go.Proofs.Ybulkbra
open Go.ChangeShapes Go.WideShapes Go.ChangeAt Go.RowKit
open Go.ChangeMaps (open_string shut_string)


theorem cells30 : Yba.prog.cellsOf 30 = 2 := by kernel_rfl
theorem cells5 : Yba.prog.cellsOf 5 = 1 := by kernel_rfl

theorem ix22 (W : World) (ab off len cap t : Nat) (ht : t < len) : (Instr.indexAt 22 (.slice (some ⟨ab, off, none⟩) len cap) (.int .i64 (t : Int))).run Yba.prog W = .ok (.pointer (some ⟨ab, off + t * 2, none⟩)) W := by
  have e22 : Yba.prog.underlying 22 = some (.slice (Yba.prog.elem 22)) := by kernel_rfl
  have ee : Yba.prog.elem 22 = 30 := by kernel_rfl
  have e30 : (sizeOf 30).run Yba.prog W = .ok 2 W := by kernel_rfl
  rw [run_indexAt_slice (h := e22), if_pos (by omega), ee, e30]
  simp [Result.andThen, Addr.add_lit]

/-- A number in a cell. -/
def natOf (v : Value) : Nat := match v with | .int _ q => q.toNat | _ => 0

/-- The steps, out of memory. -/
theorem steps_open {H : Type} {enc : TypeId × Value → H} {W : World} {fuel : Nat} {a0 : Option Addr} {len cap : Nat} {x : DataW H × List MemPlace} (hf : DataW.trod enc Yba.prog W 0 (fun _ => true) true fuel 22 (Value.slice a0 len cap).cells.toList = some x) :
    ∃ (ab off : Nat) (I K : Nat → Nat), (∀ t, t < len → I t ≤ 255) ∧ (∀ t, t < len → K t ≤ 255) ∧
      (∀ (t : Nat) (W1 : World), t < len → (Instr.indexAt 22 (.slice a0 len cap) (.int .i64 (t : Int))).run Yba.prog W1 = .ok (.pointer (some ⟨ab, off + t * 2, none⟩)) W1) ∧
      (∀ t, t < len → W.cell? ⟨ab, off + t * 2, none⟩ = some (.int .u8 (I t))) ∧ (∀ t, t < len → W.cell? ⟨ab, off + t * 2 + 1, none⟩ = some (.int .u8 (K t))) := by
  by_cases hz : len = 0
  · subst hz
    exact ⟨0, 0, fun _ => 0, fun _ => 0, fun t h => absurd h (by omega), fun t h => absurd h (by omega), fun t _ h => absurd h (by omega), fun t h => absurd h (by omega), fun t h => absurd h (by omega)⟩
  rcases Deep.open_slice_pairs Yba.underlying22 Yba.underlying30 cells30 rfl rfl cells5 cells5 hf with ⟨hcs, _⟩ | ⟨a, len', cap', m, n, V0, V1, D0, D1, P0, P1, hcs, _, hl, hm, hmm, _, hcell⟩
  · simp [Value.cells] at hcs
    exact absurd hcs.2.1 hz
  simp [Value.cells] at hcs
  obtain ⟨rfl, rfl, rfl⟩ := hcs
  simp only [if_true] at hmm
  have hv : ∀ t, t < len → V0 t = .int .u8 (natOf (V0 t) : Int) ∧ V1 t = .int .u8 (natOf (V1 t) : Int) ∧ natOf (V0 t) ≤ 255 ∧ natOf (V1 t) ≤ 255 := by
    intro t ht
    obtain ⟨_, _, t0, t1⟩ := hcell t (by omega)
    obtain ⟨x, e0, _, wx⟩ := DataW.trod_int Yba.underlying5 t0
    obtain ⟨y, e1, _, wy⟩ := DataW.trod_int Yba.underlying5 t1
    have bx := bounds_u8 wx
    have by' := bounds_u8 wy
    simp at e0 e1
    rw [e0, e1]
    have ex : ((x.toNat : Nat) : Int) = x := by omega
    have ey : ((y.toNat : Nat) : Int) = y := by omega
    exact ⟨by simp only [natOf]; rw [ex], by simp only [natOf]; rw [ey], by simp only [natOf]; omega, by simp only [natOf]; omega⟩
  obtain ⟨ab, off, spot⟩ := a
  have hspot : spot = .none := by simpa [Addr.add] using World.cell?_spot (hcell 0 (by omega)).1
  subst hspot
  refine ⟨ab, off, fun t => natOf (V0 t), fun t => natOf (V1 t), fun t h => (hv t h).2.2.1, fun t h => (hv t h).2.2.2, fun t W1 ht => ix22 W1 ab off len _ t ht, fun t ht => ?_, fun t ht => ?_⟩
  · have h1 := (hcell t (by omega)).1
    rw [Addr.add_lit] at h1
    rw [h1]; exact congrArg some (hv t ht).1
  · have h1 := (hcell t (by omega)).2.1
    rw [Addr.add_lit] at h1
    rw [Nat.add_assoc, h1]; exact congrArg some (hv t ht).2.1

set_option maxRecDepth 100000 in
theorem script_lifted (os : Os) (started : os.Started) (H : Type) (enc : TypeId × Value → H) :
    ReturnsInHanded {} Yba.checked os 3 .any (Rows.lawS0130AScriptSpec.pre6 enc Yba.prog Yba.f3 Rows.lawS0130AScriptRow.domain false) (Rows.lawS0130AScriptSpec.post enc Yba.prog Yba.f3 false true false false) := by
  refine returnsInHanded_of_change_sized (C := Yba.checked) own started (by kernel_rfl) Yba.func3
    (ChangeSpec.witness6 (enc := enc) (C := Yba.checked) false ⟨#[], #[.slice none 0 0], []⟩ 8 (by kernel_rfl) (by kernel_rfl) (by kernel_rfl) (by kernel_rfl)) ?_
  intro W base args ds gs before hval0 hW _ _ _
  have hval : ∀ (j : Nat) t v, Yba.f3.params[j]? = some t → args[j]? = some v → Value.okWide Yba.prog W .any base t v := hval0
  have hW' := hW
  obtain ⟨p, q, hA0, hV, rfl, _, _⟩ := hW
  have hA : DataW.TrodAll enc Yba.prog W 0 (fun _ => true) true Yba.f3.params.toList args.toList ds p := hA0
  rw [Yba.params3] at hA hval
  obtain ⟨v0, d0, rfl, rfl, h0⟩ := trodAll_one hA
  obtain ⟨rfl, rfl⟩ := trodVars_none hV
  obtain ⟨a0, len, cap, rfl⟩ := okWide_slice Yba.underlying22 (hval 0 22 v0 rfl rfl)
  have h0k := h0
  obtain ⟨fuel, hf⟩ := h0
  clear hA0 hval0
  simp only [List.append_nil] at hW'
  have hlt : ∀ x ∈ p, x.block < W.heap.size := fun x hx => by simpa using hW'.lt x hx
  have hargs : ∀ (W' : World), Below W.heap.size W W' → DataW.Trod enc Yba.prog W' 0 (fun b => decide (b < W.heap.size)) true 22 (.slice a0 len cap) d0 p :=
    fun W' hn => Below.trod laidOut (by kernel_rfl) (of_decide_eq_true (by kernel_rfl)) h0k hn hlt
  suffices hx : Calls Yba.prog 3 #[.slice a0 len cap] W fun e w' => e = .returned (.bool true) ∧ Below W.heap.size W w' by
    refine hx.mono fun e W' ⟨he, hn⟩ => ?_
    subst he
    refine ⟨_, rfl, _, _, _, [], _, [], hW', ?_, trodAll_mk1 (hargs _ hn), rfl, hn.frame _, fun h => by cases h⟩
    exact trodAll_mk1 (shut_bool Yba.underlying4 true)
  by_cases hbig : 1024 < (len : Int)
  · exact script_big a0 len cap W hbig
  obtain ⟨ab, off, I, K, hI, hK, hix, hcI, hcK⟩ := steps_open hf
  exact script_any a0 len cap ab off I K W hbig (by omega) hI hK hix hcI hcK

theorem script_over : Rows.lawS0130AScriptRow.holds Yba.pinned (OpenSpec.ofChange Rows.lawS0130AScriptSpec) :=
  OpenClaim.holds_of_wide 3 Yba.f3 rfl rfl rfl rfl rfl rfl rfl ⟨rfl, rfl, rfl, rfl, rfl⟩ rfl rfl rfl rfl rfl (by kernel_rfl) Yba.func3 (by kernel_rfl)
    (of_decide_eq_true (by kernel_rfl)) (by unfold Func.isWrapper; first | (rw [if_pos (by decide +kernel)]; kernel_rfl) | (rw [if_neg (by decide +kernel)]; exact ⟨rfl, rfl⟩))
    (fun os started H enc _ => script_lifted os started H enc)

theorem script_said : Rows.LawS0130AScriptSaid :=
  script_over
#print axioms script_said
end Go.Proofs.Ybulkbra
