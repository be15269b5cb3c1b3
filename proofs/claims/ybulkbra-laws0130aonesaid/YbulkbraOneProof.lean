/-
  Rows.LawS0130AOneSaid, PROVED (the seed's shell, its hole filled; the reach handed to the walk).
-/
import Derived.Test.YbulkbraOne
import Derived.SizedLaws
import Derived.Test.YbulkbraRows
import Derived.WalkKit
import Derived.ProofKit
import Derived.OpenShut
import Derived.ShutString
namespace Go.Proofs.Ybulkbra
open Go.ChangeShapes Go.WideShapes Go.ChangeAt Go.RowKit
open Go.ChangeMaps (open_string shut_string)


set_option maxRecDepth 100000 in
theorem one_lifted (os : Os) (started : os.Started) (H : Type) (enc : TypeId × Value → H) :
    ReturnsInHanded {} Yba.checked os 4 .any (Rows.lawS0130AOneSpec.pre6 enc Yba.prog Yba.f4 Rows.lawS0130AOneRow.domain false) (Rows.lawS0130AOneSpec.post enc Yba.prog Yba.f4 false true false false) := by
  refine returnsInHanded_of_change_sized (C := Yba.checked) own started (by kernel_rfl) Yba.func4
    (ChangeSpec.witness6 (enc := enc) (C := Yba.checked) false ⟨#[], #[.int .i64 0, .string ByteArray.empty], []⟩ 8 (by kernel_rfl) (by kernel_rfl) (by kernel_rfl) (by kernel_rfl)) ?_
  intro W base args ds gs before hval0 hW _ hsz _
  have hval : ∀ (j : Nat) t v, Yba.f4.params[j]? = some t → args[j]? = some v → Value.okWide Yba.prog W .any base t v := hval0
  have hW' := hW
  obtain ⟨p, q, hA0, hV, rfl, _, _⟩ := hW
  have hA : DataW.TrodAll enc Yba.prog W 0 (fun _ => true) true Yba.f4.params.toList args.toList ds p := hA0
  rw [Yba.params4] at hA hval
  obtain ⟨v0, vs0, d0, ds0, p0, q0, hargs, rfl, rfl, h0, r0⟩ := trodAll_cons hA
  obtain ⟨v1, vs1, d1, ds1, p1, q1, rfl, rfl, rfl, h1, r1⟩ := trodAll_cons r0
  obtain ⟨rfl, rfl, rfl⟩ := trodAll_nil r1
  obtain rfl : args = #[v0, v1] := by cases args; simp_all
  obtain ⟨rfl, rfl⟩ := trodVars_none hV
  obtain ⟨a0, rfl, rfl, rfl, w0⟩ := open_int Yba.underlying3 (hval 0 3 v0 rfl rfl) h0
  obtain ⟨a1, rfl, rfl, rfl, w1⟩ := open_string Yba.underlying9 (hval 1 9 v1 rfl rfl) h1
  clear hA0 hval0
  simp only [List.append_nil] at hW'
  have hlen : a1.data.toList.length ≤ reachBytes := sized_string hsz (j := 1) (t := 9) rfl rfl
  have hsize : a1.data.toList.length = a1.size := Array.length_toList
  have hr47 := reachBytes_lt
  refine (one_any a0 a1 W w0 (by omega)).mono fun e W' ⟨he, hg⟩ => ?_
  subst he
  refine ⟨_, rfl, _, _, _, [], [] ++ ([] ++ []), [], hW', ?_, ?_, rfl, hg.frame _, fun h => by cases h⟩
  · exact trodAll_mk1 (shut_bool Yba.underlying4 true)
  · exact trodAll_cons_mk (shut_int Yba.underlying3 w0) (trodAll_cons_mk (shut_string Yba.underlying9 w1) trodAll_mk0)

theorem one_over : Rows.lawS0130AOneRow.holds Yba.pinned (OpenSpec.ofChange Rows.lawS0130AOneSpec) :=
  OpenClaim.holds_of_wide 4 Yba.f4 rfl rfl rfl rfl rfl rfl rfl ⟨rfl, rfl, rfl, rfl, rfl⟩ rfl rfl rfl rfl rfl (by kernel_rfl) Yba.func4 (by kernel_rfl)
    (of_decide_eq_true (by kernel_rfl)) (by unfold Func.isWrapper; first | (rw [if_pos (by decide +kernel)]; kernel_rfl) | (rw [if_neg (by decide +kernel)]; exact ⟨rfl, rfl⟩))
    (fun os started H enc _ => one_lifted os started H enc)

theorem one_said : Rows.LawS0130AOneSaid :=
  one_over
#print axioms one_said
end Go.Proofs.Ybulkbra
