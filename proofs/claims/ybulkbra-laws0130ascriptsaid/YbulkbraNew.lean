/-
  NewMulti (function 5).
-/
import Derived.Test.YbulkbraPass
import Derived.Deep.RegionWith
namespace Go.Proofs.Ybulkbra
open Go.RowKit Go.Maps

set_option maxHeartbeats 400000 in
theorem clone_nil (w : World) : Calls Yba.prog 8 #[.slice none 0 0] w fun e w' => e = .returned (.slice none 0 0) ∧ w' = w := by
  have q26 := fun (w : World) (a : Option Addr) (n c : Nat) => Lib.run_eql_slice_nil (P := Yba.prog) w 26 52 a n c 0 0 Yba.underlying26
  go_enter Yba.func8, Yba.ntmps8
  go_wp2
  go_ret
  exact ⟨rfl, rfl⟩

theorem make0 (w : World) : (Instr.makeSlice 40 (.int .i64 0) (.int .i64 0)).run Yba.prog w = .ok (.slice (some ⟨w.heap.size, 0, none⟩) 0 0) (w.alloc (.cells #[] 4)) := by kernel_rfl

theorem MultiAt.drew {w : World} {b bm n : Nat} {lost : Value} {left : Int} {D : DataW Unit} (h : MultiAt w b bm lost left n D) : MultiAt w.drew b bm lost left n D :=
  ⟨h.c2, h.c4, h.c5, h.c6, h.c7, h.f2, h.ne, h.map.drew⟩

/-- The new Multi's block. -/
theorem fresh_multi (w : World) (st lost : Value) (left : Int) (bm : Nat) (hm : w.ownsMap (H := Unit) Yba.prog 47 (plainElem Yba.prog 4) bm 0 (.map [])) :
    MultiAt (w.alloc (.cells #[st, .nilFunc, .int .i32 0, .int .u32 0, lost, .int .i64 left, .nilIface, .map (some bm)] 45)) w.heap.size bm lost left 0 (.map []) := by
  have hlt := hm.lt
  exact ⟨by simp, by simp, by simp, by simp, by simp, by simp, by omega, hm.alloc _⟩

theorem nil_slice_first (w : World) (bm : Nat) (hbm : bm = w.heap.size + 1) : ∃ b bm' lost, Ending.returned (.pointer (some ⟨w.heap.size + 1 + 1, 0, none⟩)) = .returned (.pointer (some ⟨b, 0, none⟩)) ∧
    MultiAt (((w.alloc (.cells #[] 4)).alloc (.map #[] 0)).alloc (.cells #[.slice none 0 0, .nilFunc, .int .i32 0, .int .u32 0, .slice (some ⟨w.heap.size, 0, none⟩) 0 0, .int .i64 0, .nilIface, .map (some bm)] 45)).drew b bm' (.slice lost 0 0) 0 0 (.map []) ∧
    w.heap.size ≤ b ∧ w.heap.size ≤ bm' ∧ Below w.heap.size w (((w.alloc (.cells #[] 4)).alloc (.map #[] 0)).alloc (.cells #[.slice none 0 0, .nilFunc, .int .i32 0, .int .u32 0, .slice (some ⟨w.heap.size, 0, none⟩) 0 0, .int .i64 0, .nilIface, .map (some bm)] 45)).drew := by
  subst hbm
  have hm := World.ownsMap_made (H := Unit) (w.alloc (.cells #[] 4)) Yba.prog 47 (plainElem Yba.prog 4)
  have hf := fresh_multi ((w.alloc (.cells #[] 4)).alloc (.map #[] 0)) (.slice none 0 0) (.slice (some ⟨w.heap.size, 0, none⟩) 0 0) 0 (w.heap.size + 1) (by simpa using hm)
  have e : ((w.alloc (.cells #[] 4)).alloc (.map #[] 0)).heap.size = w.heap.size + 1 + 1 := by simp
  rw [e] at hf
  exact ⟨w.heap.size + 1 + 1, w.heap.size + 1, _, rfl, hf.drew, by omega, by omega, ((((Below.refl _ _).alloc (Nat.le_refl _) _).alloc (by simp) _).alloc (by simp; omega) _).drew⟩

theorem nil_map_first (w : World) (bm : Nat) (hbm : bm = w.heap.size) : ∃ b bm' lost, Ending.returned (.pointer (some ⟨w.heap.size + 1 + 1, 0, none⟩)) = .returned (.pointer (some ⟨b, 0, none⟩)) ∧
    MultiAt (((w.alloc (.map #[] 0)).alloc (.cells #[] 4)).alloc (.cells #[.slice none 0 0, .nilFunc, .int .i32 0, .int .u32 0, .slice (some ⟨w.heap.size + 1, 0, none⟩) 0 0, .int .i64 0, .nilIface, .map (some bm)] 45)).drew b bm' (.slice lost 0 0) 0 0 (.map []) ∧
    w.heap.size ≤ b ∧ w.heap.size ≤ bm' ∧ Below w.heap.size w (((w.alloc (.map #[] 0)).alloc (.cells #[] 4)).alloc (.cells #[.slice none 0 0, .nilFunc, .int .i32 0, .int .u32 0, .slice (some ⟨w.heap.size + 1, 0, none⟩) 0 0, .int .i64 0, .nilIface, .map (some bm)] 45)).drew := by
  subst hbm
  have hm := World.ownsMap_made (H := Unit) w Yba.prog 47 (plainElem Yba.prog 4)
  have hf := fresh_multi ((w.alloc (.map #[] 0)).alloc (.cells #[] 4)) (.slice none 0 0) (.slice (some ⟨w.heap.size + 1, 0, none⟩) 0 0) 0 w.heap.size (hm.alloc _)
  have e : ((w.alloc (.map #[] 0)).alloc (.cells #[] 4)).heap.size = w.heap.size + 1 + 1 := by simp
  rw [e] at hf
  exact ⟨w.heap.size + 1 + 1, w.heap.size, _, rfl, hf.drew, by omega, by omega, ((((Below.refl _ _).alloc (Nat.le_refl _) _).alloc (by simp) _).alloc (by simp; omega) _).drew⟩

set_option maxHeartbeats 1000000 in
theorem new_nil (w : World) : Calls Yba.prog 5 #[.slice none 0 0, .nilFunc] w fun e w' => ∃ b bm lost, e = .returned (.pointer (some ⟨b, 0, none⟩)) ∧ MultiAt w' b bm (.slice lost 0 0) 0 0 (.map []) ∧ w.heap.size ≤ b ∧ w.heap.size ≤ bm ∧ Below w.heap.size w w' := by
  have hmm := @run_makeMap Yba.prog
  have hmk := make0
  go_enter Yba.func5, Yba.ntmps5
  go_wp2_with fail
  go_region_with (go_at_call 8; refine (clone_nil _).mono ?_; rintro e w' ⟨rfl, rfl⟩)
  all_goals
    go_wp2
    go_ret
    first | exact nil_slice_first w _ rfl | exact nil_map_first w _ rfl
end Go.Proofs.Ybulkbra
