/-
  THE TOLD CARD OF LawS0132BGuard, PROVED.
-/
import Derived.Test.YbulkbscFmtCards
import Derived.Test.YbulkbscFmtGuard
import Derived.ProofKit
import Derived.Stop.JoinedAt
import Derived.Stop.JoinedTold
import Derived.SizedLaws
import Derived.SevenToldRow
import Derived.OpenShut
namespace Go.Proofs.YbulkbscFmt
open Go.ChangeShapes Go.WideShapes Go.ChangeAt Go.RowKit Go.Kit
open Go.ChangeMaps (open_string shut_string)
open Go.Extern.Stop Go.Stop Go.Extern

theorem stopsG : Rows.lawS0132BGuardRow.stops = Ybaf.pinned.checked.prog.stops := by kernel_rfl
theorem stopKnobsG : Ybaf.pinned.checked.prog.stopKnobs = [] := by kernel_rfl
theorem quietG (os : Os) : Stop.quiet Ybaf.pinned.checked.prog os := by
  intro k hk
  rw [stopKnobsG] at hk
  cases hk

theorem u8_back {a : Nat} (h : a < 256) : (a.toUInt8).toNat = a := by
  simp [Nat.toUInt8, Nat.mod_eq_of_lt h]

/-- A slice of bytes, out of memory. -/
theorem bytes_open {H : Type} {enc : TypeId × Value → H} {W : World} {fuel : Nat} {a0 : Option Addr} {len cap : Nat} {x : DataW H × List MemPlace} (hf : DataW.trod enc Ybaf.prog W 0 (fun _ => true) true fuel 24 (Value.slice a0 len cap).cells.toList = some x) :
    (a0 = .none ∧ len = 0 ∧ cap = 0) ∨ ∃ (a : Addr) (bs : List UInt8), a0 = some a ∧ bs.length = len ∧ len ≤ cap ∧ ∀ (t : Nat) (u : Value), (bs.map fun b => Value.int .u8 b.toNat)[t]? = some u → W.cell? (a.add t) = some u := by
  rcases open_ints Ybaf.underlying24 Ybaf.underlying5 cells5 hf with ⟨hcs, _⟩ | ⟨a, len', cap', zs, hcs, _, hl, hm, hz, _, hcell, hwz⟩
  · simp [Value.cells] at hcs
    exact .inl hcs
  · simp [Value.cells] at hcs
    obtain ⟨rfl, rfl, rfl⟩ := hcs
    simp only [if_true] at hz
    have hl2 : ((zs.take len).map fun z => z.toNat.toUInt8).length = len := by rw [List.length_map, List.length_take]; omega
    refine .inr ⟨a, (zs.take len).map fun z => z.toNat.toUInt8, rfl, hl2, hl, fun t u hu => ?_⟩
    have ht : t < len := by
      have := (List.getElem?_eq_some_iff.1 hu).1
      rw [List.length_map, hl2] at this
      exact this
    rw [hcell t (by omega)]
    have hz0 : zs[t]? = some (zs.getD t 0) := by simp [List.getD, show t < zs.length by omega]
    have hmem : zs.getD t 0 ∈ zs := List.mem_of_getElem? hz0
    have hb := bounds_u8 (hwz _ hmem)
    rw [List.map_map, List.getElem?_map, List.getElem?_take_of_lt ht, hz0] at hu
    simp only [Option.map_some, Option.some.injEq, Function.comp] at hu
    rw [← hu]
    have : ((zs.getD t 0).toNat.toUInt8.toNat : Int) = zs.getD t 0 := by
      rw [u8_back (by omega)]; omega
    rw [this]

set_option maxRecDepth 100000 in
theorem guard_lifted (os : Os) (started : os.Started) (H : Type) (enc : TypeId × Value → H) :
    ReturnsInTold none {} Ybaf.checked os 4 .any Input.okWide ((OpenSpec.ofChange Rows.lawS0132BGuardSpec).preRow enc Ybaf.prog Ybaf.f4 [] false []) (fun F => ((OpenSpec.ofChange Rows.lawS0132BGuardSpec).at F).post enc Ybaf.prog Ybaf.f4 false true false false) (aloneAtReturn Ybaf.prog) nothingAlways := by
  refine returnsInTold_of_row (C := Ybaf.checked) (s := OpenSpec.ofChange Rows.lawS0132BGuardSpec) (by kernel_rfl) own started (by kernel_rfl) Ybaf.func4
    (OpenSpec.witness_stopped (enc := enc) (C := Ybaf.checked) false ⟨#[], #[.slice none 0 0], []⟩ 8 (by kernel_rfl) (by kernel_rfl) (by kernel_rfl) (by kernel_rfl)) ?_
  intro F W base args ds gs before _ hF hval0 hW _ _ hsz _ _
  have hval : ∀ (j : Nat) t v, Ybaf.f4.params[j]? = some t → args[j]? = some v → Value.okWide Ybaf.prog W .any base t v := hval0
  have hW' := hW
  obtain ⟨p, q, hA0, hV, rfl, _, _⟩ := hW
  have hA : DataW.TrodAll enc Ybaf.prog W 0 (fun _ => true) true Ybaf.f4.params.toList args.toList ds p := hA0
  rw [Ybaf.params4] at hA hval
  obtain ⟨v0, d0, rfl, rfl, h0⟩ := trodAll_one hA
  obtain ⟨rfl, rfl⟩ := trodVars_none hV
  obtain ⟨a0, len, cap, rfl⟩ := okWide_slice Ybaf.underlying24 (hval 0 24 v0 rfl rfl)
  have h0k := h0
  obtain ⟨fuel, hf⟩ := h0
  clear hA0 hval0
  simp only [List.append_nil] at hW'
  have hlt : ∀ x ∈ p, x.block < W.heap.size := fun x hx => by simpa using hW'.lt x hx
  have hargs : ∀ (W' : World), Below W.heap.size W W' → DataW.Trod enc Ybaf.prog W' 0 (fun b => decide (b < W.heap.size)) true 24 (.slice a0 len cap) d0 p :=
    fun W' hn => Below.trod laidOut (by kernel_rfl) (of_decide_eq_true (by kernel_rfl)) h0k hn hlt
  suffices hx : Calls Ybaf.prog 4 #[.slice a0 len cap] W fun e w' => e = .returned (.bool true) ∧ Below W.heap.size W w' by
    refine hx.mono fun e W' ⟨he, hn⟩ => ?_
    subst he
    refine ⟨_, rfl, _, _, _, [], p, [], hW', ?_, trodAll_mk1 (hargs _ hn), rfl, hn.frame _, fun h => by cases h⟩
    exact trodAll_mk1 (shut_bool Ybaf.underlying4 true)
  by_cases hbig : 1024 < (len : Int)
  · exact guard_big a0 len cap W hbig
  rcases bytes_open hf with ⟨rfl, rfl, rfl⟩ | ⟨a, bs, rfl, hl, hlc, hc⟩
  · exact guard_none F.told W hF
  · match bs, hl, hc with
    | [], hl, hc => exact guard_small F.told a len cap [] W hF (by simp at hl; omega) hl hc
    | [b], hl, hc => exact guard_small F.told a len cap [b] W hF (by simp at hl; omega) hl hc
    | b0 :: b1 :: bs, hl, hc =>
      obtain ⟨ab, off, spot⟩ := a
      have hspot : spot = .none := by simpa [Addr.add] using World.cell?_spot (hc 0 _ rfl)
      subst hspot
      exact guard_main F.told ab off len cap _ b0 b1 bs W hF (by omega) hl hlc rfl hc

theorem guard_told : Rows.LawS0132BGuardToldSaid :=
  Claim7.holds_of_told_any 4 Ybaf.f4 _ _ [] _ _ _ (by kernel_rfl) rfl rfl rfl laidOut (by kernel_rfl) rfl ⟨rfl, rfl, rfl, rfl, rfl, rfl, rfl⟩ rfl rfl (by kernel_rfl) (by kernel_rfl) Ybaf.func4 (by kernel_rfl)
    (of_decide_eq_true (by kernel_rfl)) (of_decide_eq_true (by kernel_rfl)) stopsG rfl stopKnobsG.symm (by kernel_rfl)
    (by kernel_rfl) (by kernel_rfl) (by kernel_rfl) (by kernel_rfl) (by kernel_rfl) (by kernel_rfl) (by kernel_rfl) (by kernel_rfl) (by kernel_rfl) rfl (by kernel_rfl) rfl rfl
    rfl rfl
    rfl (by kernel_rfl) (by kernel_rfl) (by kernel_rfl) (by decide) (by kernel_rfl)
    (OpenClaim.moreEntering_of (by kernel_rfl) (by kernel_rfl) (by kernel_rfl) (by kernel_rfl) (by kernel_rfl) (by kernel_rfl) (by kernel_rfl) (by kernel_rfl) (by kernel_rfl) (by kernel_rfl))
    ⟨_, WideRow.started_initial, quietG _⟩
    (fun os started _ H enc _ => guard_lifted os started H enc)
#print axioms guard_told
end Go.Proofs.YbulkbscFmt
