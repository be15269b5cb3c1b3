/-
  THE TOLD CARD OF LawS0129AMarked, PROVED.
-/
import Derived.Test.YbulkbqmFmtCards
import Derived.Test.YbulkbqmFmtMarked
import Derived.ProofKit
import Derived.Stop.JoinedAt
import Derived.Stop.JoinedTold
import Derived.SizedLaws
import Derived.SevenToldRow
import Derived.OpenShut
namespace Go.Proofs.YbulkbqmFmt
open Go.ChangeShapes Go.WideShapes Go.ChangeAt Go.RowKit Go.Kit
open Go.ChangeMaps (open_string shut_string)
open Go.Extern.Stop Go.Stop Go.Extern

theorem stopsM : Ybaf.pinned.checked.prog.stops = ["fmt.errorf"] := by kernel_rfl
theorem stopKnobsM : Ybaf.pinned.checked.prog.stopKnobs = [] := by kernel_rfl
theorem quietM (os : Os) : Stop.quiet Ybaf.pinned.checked.prog os := by
  intro k hk
  rw [stopKnobsM] at hk
  cases hk

set_option maxRecDepth 100000 in
theorem mk_lifted (os : Os) (started : os.Started) (H : Type) (enc : TypeId × Value → H) :
    ReturnsInTold none {} Ybaf.checked os 4 .any Input.okWide ((OpenSpec.ofChange Rows.lawS0129AMarkedSpec).preRow enc Ybaf.prog Ybaf.f4 [] false []) (fun F => ((OpenSpec.ofChange Rows.lawS0129AMarkedSpec).at F).post enc Ybaf.prog Ybaf.f4 false true false false) (aloneAtReturn Ybaf.prog) nothingAlways := by
  refine returnsInTold_of_row (C := Ybaf.checked) (s := OpenSpec.ofChange Rows.lawS0129AMarkedSpec) (by kernel_rfl) own started (by kernel_rfl) Ybaf.func4
    (OpenSpec.witness_stopped (enc := enc) (C := Ybaf.checked) false ⟨#[], #[.slice none 0 0, .int .u8 0, .int .u8 0, .string ⟨#[]⟩], []⟩ 8 (by kernel_rfl) (by kernel_rfl) (by kernel_rfl) (by kernel_rfl)) ?_
  intro F W base args ds gs before _ hF hval0 hW _ _ hsz _ _
  have hval : ∀ (j : Nat) t v, Ybaf.f4.params[j]? = some t → args[j]? = some v → Value.okWide Ybaf.prog W .any base t v := hval0
  have hW' := hW
  obtain ⟨p, q, hA0, hV, rfl, _, _⟩ := hW
  have hA : DataW.TrodAll enc Ybaf.prog W 0 (fun _ => true) true Ybaf.f4.params.toList args.toList ds p := hA0
  rw [Ybaf.params4] at hA hval
  obtain ⟨v0, v1, v2, v3, d0, d1, d2, d3, p0, p1, p2, p3, rfl, rfl, rfl, h0, h1, h2, h3⟩ := trodAll_four hA
  obtain ⟨rfl, rfl⟩ := trodVars_none hV
  obtain ⟨m, rfl, rfl, rfl, wm⟩ := open_int Ybaf.underlying5 (hval 1 5 v1 rfl rfl) h1
  obtain ⟨d, rfl, rfl, rfl, wd⟩ := open_int Ybaf.underlying5 (hval 2 5 v2 rfl rfl) h2
  obtain ⟨s, rfl, rfl, rfl, ws⟩ := open_string Ybaf.underlying9 (hval 3 9 v3 rfl rfl) h3
  obtain ⟨a0, len, cap, rfl⟩ := okWide_slice Ybaf.underlying22 (hval 0 22 v0 rfl rfl)
  have h0k := h0
  obtain ⟨fuel, hf⟩ := h0
  clear hA0 hval0
  have hlt : ∀ x ∈ p0, x.block < W.heap.size := fun x hx => by simpa using hW'.lt x (by simpa using hx)
  have hargs : ∀ (W' : World), Below W.heap.size W W' → DataW.Trod enc Ybaf.prog W' 0 (fun b => decide (b < W.heap.size)) true 22 (.slice a0 len cap) d0 p0 :=
    fun W' hn => Below.trod laidOut (by kernel_rfl) (of_decide_eq_true (by kernel_rfl)) h0k hn hlt
  suffices hx : Calls Ybaf.prog 4 #[.slice a0 len cap, .int .u8 m, .int .u8 d, .string s] W fun e w' => e = .returned (.bool true) ∧ Below W.heap.size W w' by
    refine hx.mono fun e W' ⟨he, hn⟩ => ?_
    subst he
    refine ⟨_, rfl, _, _, _, [], p0 ++ ([] ++ ([] ++ [])), [], hW', ?_, trodAll_mk4 (hargs _ hn) (shut_int Ybaf.underlying5 wm) (shut_int Ybaf.underlying5 wd) (shut_string Ybaf.underlying9 ws), rfl, hn.frame _, fun h => by cases h⟩
    exact trodAll_mk1 (shut_bool Ybaf.underlying4 true)
  by_cases hbig : 1024 < (len : Int)
  · exact mk_big a0 len cap m d s W hbig
  have hm' := bounds_u8 wm
  have hd' := bounds_u8 wd
  have key : ∀ (R : List Int), R.length = len → (a0 = .none → len = 0 ∧ cap = 0) → (∀ ad, a0 = some ad → ∀ t, t < len → W.cell? (ad.add t) = some (.int .u8 (R.getD t 0))) →
      Calls Ybaf.prog 4 #[.slice a0 len cap, .int .u8 m, .int .u8 d, .string s] W fun e w' => e = .returned (.bool true) ∧ Below W.heap.size W w' := by
    intro R hR hn hc
    by_cases hd0 : d = 0
    · subst hd0
      exact mk_zero F.told a0 len cap R m s W hF hR hbig (by omega) hn hc (by omega)
    · exact mk_main F.told a0 len cap R m d s W hF hR hbig (by omega) hn hc (by omega) (by omega) (beq_eq_false_iff_ne.2 hd0)
  rcases open_ints Ybaf.underlying22 Ybaf.underlying5 cells5 hf with ⟨hcs, hx⟩ | ⟨a, len', cap', zs, hcs, _, hl, hm, hz, hx, hcell, hwz⟩
  · simp [Value.cells] at hcs
    obtain ⟨rfl, rfl, rfl⟩ := hcs
    exact key [] rfl (fun _ => ⟨rfl, rfl⟩) (fun ad h => by cases h)
  · simp [Value.cells] at hcs
    obtain ⟨rfl, rfl, rfl⟩ := hcs
    simp only [Prod.mk.injEq] at hx
    obtain ⟨rfl, rfl⟩ := hx
    simp only [if_true] at hz
    refine key (zs.take len) (by rw [List.length_take]; omega) (fun h => by cases h) (fun ad h t ht => ?_)
    cases h
    rw [hcell t (by omega)]
    simp [List.getD, List.getElem?_take_of_lt ht]

theorem mk_told : Rows.LawS0129AMarkedToldSaid :=
  Claim7.holds_of_told_any 4 Ybaf.f4 "fmt.errorf" [] [] _ _ _ (by kernel_rfl) rfl rfl rfl laidOut (by kernel_rfl) rfl ⟨rfl, rfl, rfl, rfl, rfl, rfl, rfl⟩ rfl rfl (by kernel_rfl) (by kernel_rfl) Ybaf.func4 (by kernel_rfl)
    (of_decide_eq_true (by kernel_rfl)) (of_decide_eq_true (by kernel_rfl)) stopsM.symm rfl stopKnobsM.symm (by kernel_rfl)
    (by kernel_rfl) (by kernel_rfl) (by kernel_rfl) (by kernel_rfl) (by kernel_rfl) (by kernel_rfl) (by kernel_rfl) (by kernel_rfl) (by kernel_rfl) rfl (by kernel_rfl) rfl rfl
    rfl rfl
    rfl (by kernel_rfl) (by kernel_rfl) (by kernel_rfl) (by decide) (by kernel_rfl)
    (OpenClaim.moreEntering_of (by kernel_rfl) (by kernel_rfl) (by kernel_rfl) (by kernel_rfl) (by kernel_rfl) (by kernel_rfl) (by kernel_rfl) (by kernel_rfl) (by kernel_rfl) (by kernel_rfl))
    ⟨_, WideRow.started_initial, quietM _⟩
    (fun os started _ H enc _ => mk_lifted os started H enc)
#print axioms mk_told
end Go.Proofs.YbulkbqmFmt
