/-
  THE TOLD CARD OF LawS0132BRoundTrip, PROVED.
-/
import Derived.Test.YbulkbscFmtRound
import Derived.Test.YbulkbscFmtGuardProof
import Derived.SliceStrings
namespace Go.Proofs.YbulkbscFmt
open Go.ChangeShapes Go.WideShapes Go.ChangeAt Go.RowKit Go.Kit
open Go.ChangeMaps (open_string shut_string)
open Go.Extern.Stop Go.Stop Go.Extern

theorem stopsR : Rows.lawS0132BRoundTripRow.stops = Ybaf.pinned.checked.prog.stops := by kernel_rfl
theorem cells9R : Ybaf.prog.cellsOf 9 = 1 := by kernel_rfl
theorem cells30R : Ybaf.prog.cellsOf 30 = 1 := by kernel_rfl

theorem ix22 (W : World) (ab off len cap t : Nat) (ht : t < len) : (Instr.indexAt 22 (.slice (some ⟨ab, off, none⟩) len cap) (.int .i64 (t : Int))).run Ybaf.prog W = .ok (.pointer (some ⟨ab, off + t, none⟩)) W := by
  have e22 : Ybaf.prog.underlying 22 = some (.slice (Ybaf.prog.elem 22)) := by kernel_rfl
  have ee : Ybaf.prog.elem 22 = 9 := by kernel_rfl
  have e9 : (sizeOf 9).run Ybaf.prog W = .ok 1 W := by kernel_rfl
  rw [run_indexAt_slice (h := e22), if_pos (by omega), ee, e9]
  simp [Result.andThen, Addr.add_lit]
theorem ix23 (W : World) (ab off len cap t : Nat) (ht : t < len) : (Instr.indexAt 23 (.slice (some ⟨ab, off, none⟩) len cap) (.int .i64 (t : Int))).run Ybaf.prog W = .ok (.pointer (some ⟨ab, off + t, none⟩)) W := by
  have e22 : Ybaf.prog.underlying 23 = some (.slice (Ybaf.prog.elem 23)) := by kernel_rfl
  have ee : Ybaf.prog.elem 23 = 30 := by kernel_rfl
  have e9 : (sizeOf 30).run Ybaf.prog W = .ok 1 W := by kernel_rfl
  rw [run_indexAt_slice (h := e22), if_pos (by omega), ee, e9]
  simp [Result.andThen, Addr.add_lit]

/-- The keys, out of memory. -/
theorem keys_open {H : Type} {enc : TypeId × Value → H} {W : World} {fuel : Nat} {a0 : Option Addr} {len cap : Nat} {x : DataW H × List MemPlace} (hf : DataW.trod enc Ybaf.prog W 0 (fun _ => true) true fuel 22 (Value.slice a0 len cap).cells.toList = some x) :
    ∃ (ab off : Nat) (K : Nat → ByteArray),
      (∀ (t : Nat) (W1 : World), t < len → (Instr.indexAt 22 (.slice a0 len cap) (.int .i64 (t : Int))).run Ybaf.prog W1 = .ok (.pointer (some ⟨ab, off + t, none⟩)) W1) ∧
      (∀ t, t < len → W.cell? ⟨ab, off + t, none⟩ = some (.string (K t))) := by
  by_cases hz : len = 0
  · subst hz
    exact ⟨0, 0, fun _ => ByteArray.empty, fun t _ h => absurd h (by omega), fun t h => absurd h (by omega)⟩
  rcases open_strings Ybaf.underlying22 Ybaf.underlying9 cells9R hf with ⟨hcs, _⟩ | ⟨a, len', cap', ss, hcs, _, hl, hm, hmm, _, hcell, _⟩
  · simp [Value.cells] at hcs
    exact absurd hcs.2.1 hz
  simp [Value.cells] at hcs
  obtain ⟨rfl, rfl, rfl⟩ := hcs
  simp only [if_true] at hmm
  obtain ⟨ab, off, spot⟩ := a
  have hspot : spot = .none := by simpa [Addr.add] using World.cell?_spot (hcell 0 (by omega))
  subst hspot
  refine ⟨ab, off, fun t => ss.getD t ByteArray.empty, fun t W1 ht => ix22 W1 ab off len _ t ht, fun t ht => ?_⟩
  have h1 := hcell t (by omega)
  rw [Addr.add_lit] at h1
  exact h1

/-- The values, out of memory. -/
theorem vals_open {H : Type} {enc : TypeId × Value → H} {W : World} {fuel : Nat} {a0 : Option Addr} {len cap : Nat} {x : DataW H × List MemPlace} (hf : DataW.trod enc Ybaf.prog W 0 (fun _ => true) true fuel 23 (Value.slice a0 len cap).cells.toList = some x) :
    ∃ (ab off : Nat) (vs : Nat → Nat), (len : Int) ≤ 9223372036854775807 ∧ (∀ t, t < len → vs t < 18446744073709551616) ∧
      (∀ (t : Nat) (W1 : World), t < len → (Instr.indexAt 23 (.slice a0 len cap) (.int .i64 (t : Int))).run Ybaf.prog W1 = .ok (.pointer (some ⟨ab, off + t, none⟩)) W1) ∧
      (∀ t, t < len → W.cell? ⟨ab, off + t, none⟩ = some (.int .u64 (vs t))) := by
  by_cases hz : len = 0
  · subst hz
    exact ⟨0, 0, fun _ => 0, by omega, fun t h => absurd h (by omega), fun t _ h => absurd h (by omega), fun t h => absurd h (by omega)⟩
  rcases open_ints Ybaf.underlying23 Ybaf.underlying30 cells30R hf with ⟨hcs, _⟩ | ⟨a, len', cap', zs, hcs, _, hl, hm, hmm, _, hcell, hwz⟩
  · simp [Value.cells] at hcs
    exact absurd hcs.2.1 hz
  simp [Value.cells] at hcs
  obtain ⟨rfl, rfl, rfl⟩ := hcs
  simp only [if_true] at hmm
  obtain ⟨ab, off, spot⟩ := a
  have hspot : spot = .none := by simpa [Addr.add] using World.cell?_spot (hcell 0 (by omega))
  subst hspot
  have hb : ∀ t, t < len → 0 ≤ zs.getD t 0 ∧ zs.getD t 0 < 18446744073709551616 := fun t ht => by
    have hz0 : zs[t]? = some (zs.getD t 0) := by simp [List.getD, show t < zs.length by omega]
    have := bounds_u64 (hwz _ (List.mem_of_getElem? hz0))
    omega
  refine ⟨ab, off, fun t => (zs.getD t 0).toNat, by unfold maxLen at hm; omega, fun t ht => ?_, fun t W1 ht => ix23 W1 ab off len _ t ht, fun t ht => ?_⟩
  · have := hb t ht
    show (zs.getD t 0).toNat < _
    omega
  · have h1 := hcell t (by omega)
    rw [Addr.add_lit] at h1
    rw [h1]
    have := hb t ht
    have e : ((zs.getD t 0).toNat : Int) = zs.getD t 0 := by omega
    rw [e]

set_option maxRecDepth 100000 in
theorem round_lifted (os : Os) (started : os.Started) (H : Type) (enc : TypeId × Value → H) :
    ReturnsInTold none {} Ybaf.checked os 3 .any Input.okWide ((OpenSpec.ofChange Rows.lawS0132BRoundTripSpec).preRow enc Ybaf.prog Ybaf.f3 [] false []) (fun F => ((OpenSpec.ofChange Rows.lawS0132BRoundTripSpec).at F).post enc Ybaf.prog Ybaf.f3 false true false false) (aloneAtReturn Ybaf.prog) nothingAlways := by
  refine returnsInTold_of_row (C := Ybaf.checked) (s := OpenSpec.ofChange Rows.lawS0132BRoundTripSpec) (by kernel_rfl) own started (by kernel_rfl) Ybaf.func3
    (OpenSpec.witness_stopped (enc := enc) (C := Ybaf.checked) false ⟨#[], #[.slice none 0 0, .slice none 0 0, .slice none 0 0], []⟩ 8 (by kernel_rfl) (by kernel_rfl) (by kernel_rfl) (by kernel_rfl)) ?_
  intro F W base args ds gs before _ hF hval0 hW _ _ hsz _ _
  have hval : ∀ (j : Nat) t v, Ybaf.f3.params[j]? = some t → args[j]? = some v → Value.okWide Ybaf.prog W .any base t v := hval0
  have hW' := hW
  obtain ⟨p, q, hA0, hV, rfl, _, _⟩ := hW
  have hA : DataW.TrodAll enc Ybaf.prog W 0 (fun _ => true) true Ybaf.f3.params.toList args.toList ds p := hA0
  rw [Ybaf.params3] at hA hval
  obtain ⟨v0, v1, v2, d0, d1, d2, p0, p1, p2, rfl, rfl, rfl, h0, h1, h2⟩ := trodAll_three hA
  obtain ⟨rfl, rfl⟩ := trodVars_none hV
  obtain ⟨a0, len0, cap0, rfl⟩ := okWide_slice Ybaf.underlying22 (hval 0 22 v0 rfl rfl)
  obtain ⟨a1, len1, cap1, rfl⟩ := okWide_slice Ybaf.underlying23 (hval 1 23 v1 rfl rfl)
  obtain ⟨a2, len2, cap2, rfl⟩ := okWide_slice Ybaf.underlying24 (hval 2 24 v2 rfl rfl)
  have h0k := h0
  have h1k := h1
  have h2k := h2
  obtain ⟨fuel0, hf0⟩ := h0
  obtain ⟨fuel1, hf1⟩ := h1
  obtain ⟨fuel2, hf2⟩ := h2
  clear hA0 hval0
  simp only [List.append_nil] at hW'
  have hlt : ∀ x ∈ p0 ++ p1 ++ p2, x.block < W.heap.size := fun x hx => by simpa using hW'.lt x hx
  have l0 : ∀ x ∈ p0, x.block < W.heap.size := fun x hx => hlt x (by simp [hx])
  have l1 : ∀ x ∈ p1, x.block < W.heap.size := fun x hx => hlt x (by simp [hx])
  have l2 : ∀ x ∈ p2, x.block < W.heap.size := fun x hx => hlt x (by simp [hx])
  have g0 : ∀ (W' : World), Below W.heap.size W W' → DataW.Trod enc Ybaf.prog W' 0 (fun b => decide (b < W.heap.size)) true 22 (.slice a0 len0 cap0) d0 p0 :=
    fun W' hn => Below.trod laidOut (by kernel_rfl) (of_decide_eq_true (by kernel_rfl)) h0k hn l0
  have g1 : ∀ (W' : World), Below W.heap.size W W' → DataW.Trod enc Ybaf.prog W' 0 (fun b => decide (b < W.heap.size)) true 23 (.slice a1 len1 cap1) d1 p1 :=
    fun W' hn => Below.trod laidOut (by kernel_rfl) (of_decide_eq_true (by kernel_rfl)) h1k hn l1
  have g2 : ∀ (W' : World), Below W.heap.size W W' → DataW.Trod enc Ybaf.prog W' 0 (fun b => decide (b < W.heap.size)) true 24 (.slice a2 len2 cap2) d2 p2 :=
    fun W' hn => Below.trod laidOut (by kernel_rfl) (of_decide_eq_true (by kernel_rfl)) h2k hn l2
  suffices hx : Calls Ybaf.prog 3 #[.slice a0 len0 cap0, .slice a1 len1 cap1, .slice a2 len2 cap2] W fun e w' => e = .returned (.bool true) ∧ Below W.heap.size W w' by
    refine hx.mono fun e W' ⟨he, hn⟩ => ?_
    subst he
    refine ⟨_, rfl, _, _, _, [], p0 ++ (p1 ++ p2), [], hW', ?_, trodAll_mk3 (g0 _ hn) (g1 _ hn) (g2 _ hn), rfl, hn.frame _, fun h => by cases h⟩
    exact trodAll_mk1 (shut_bool Ybaf.underlying4 true)
  by_cases hbig : 1024 < (len0 : Int)
  · exact rt_big1 a0 len0 cap0 _ _ W hbig
  by_cases hbig2 : 1024 < (len2 : Int)
  · exact rt_big2 a0 len0 cap0 _ a2 len2 cap2 W (by omega) hbig2
  obtain ⟨kb, koff, K, hix, hcK⟩ := keys_open hf0
  obtain ⟨vb, voff, vs, hnv, hvs, hixV, hcV⟩ := vals_open hf1
  rcases bytes_open hf2 with ⟨rfl, rfl, rfl⟩ | ⟨a, bs, rfl, hl, hlc, hc⟩
  · exact rt_main a0 len0 cap0 kb koff K a1 len1 cap1 vb voff vs none 0 0 [] W (by omega) hnv (by omega) rfl hix hcK hixV hcV hvs (.inl ⟨rfl, rfl, rfl⟩)
  · exact rt_main a0 len0 cap0 kb koff K a1 len1 cap1 vb voff vs (some a) len2 cap2 bs W (by omega) hnv (by omega) hl hix hcK hixV hcV hvs (.inr ⟨a, rfl, hc⟩)

theorem round_told : Rows.LawS0132BRoundTripToldSaid :=
  Claim7.holds_of_told_any 3 Ybaf.f3 _ _ [] _ _ _ (by kernel_rfl) rfl rfl rfl laidOut (by kernel_rfl) rfl ⟨rfl, rfl, rfl, rfl, rfl, rfl, rfl⟩ rfl rfl (by kernel_rfl) (by kernel_rfl) Ybaf.func3 (by kernel_rfl)
    (of_decide_eq_true (by kernel_rfl)) (of_decide_eq_true (by kernel_rfl)) stopsR rfl stopKnobsG.symm (by kernel_rfl)
    (by kernel_rfl) (by kernel_rfl) (by kernel_rfl) (by kernel_rfl) (by kernel_rfl) (by kernel_rfl) (by kernel_rfl) (by kernel_rfl) (by kernel_rfl) rfl (by kernel_rfl) rfl rfl
    rfl rfl
    rfl (by kernel_rfl) (by kernel_rfl) (by kernel_rfl) (by decide) (by kernel_rfl)
    (OpenClaim.moreEntering_of (by kernel_rfl) (by kernel_rfl) (by kernel_rfl) (by kernel_rfl) (by kernel_rfl) (by kernel_rfl) (by kernel_rfl) (by kernel_rfl) (by kernel_rfl) (by kernel_rfl))
    ⟨_, WideRow.started_initial, quietG _⟩
    (fun os started _ H enc _ => round_lifted os started H enc)
#print axioms round_told
end Go.Proofs.YbulkbscFmt
