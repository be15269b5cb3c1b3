/-
  slices.Clone (function 8) and NewMulti (function 5) at three nil stores.
-/
import Derived.Test.YbulkbraNew
import Derived.OwnWalk
namespace Go.Proofs.Ybulkbra
open Go.RowKit Go.Maps

theorem info52 : (Yba.prog.info? 52).map (fun i => (i.zero, i.size, i.bytes)) = some (some .nilIface, 1, 16) := by kernel_rfl

set_option maxHeartbeats 400000 in
theorem clone3 (g : Nat) (w : World) (h : ∀ j, j < 3 → w.cell? ⟨g, j, none⟩ = some .nilIface) : Calls Yba.prog 8 #[.slice (some ⟨g, 0, none⟩) 3 3] w fun e w' => ∃ g' c, e = .returned (.slice (some ⟨g', 0, none⟩) 3 c) ∧ Below w.heap.size w w' ∧ w.heap.size < w'.heap.size := by
  have q26 := fun (w : World) (a : Option Addr) (n c : Nat) => Lib.run_eql_slice_nil (P := Yba.prog) w 26 52 a n c 0 0 Yba.underlying26
  obtain ⟨i0, hi, hz0, hz1, hz2⟩ := info_parts info52
  have hown : (w.alloc (.cells #[] 52)).ownsRow w.heap.size 52 1 (.slice (some ⟨w.heap.size, 0, none⟩) 0 0) 0 [] :=
    ⟨rfl, Or.inr ⟨w.heap.size, 0, #[], rfl, Nat.le_refl _, (MapKept.heap_alloc w _).1, Nat.le_refl _, Nat.zero_le _, rfl, rfl⟩⟩
  go_enter Yba.func8, Yba.ntmps8
  go_wp2_with (at_builtin; refine wpList_append_own _ rfl _ _ 26 rfl w.heap.size 52 i0 .nilIface 1 16 Yba.underlying26 hi hz0 hz1 hz2 rfl (by decide) _ 0 [] rfl hown ⟨g, 0, none⟩ 3 3 [.nilIface, .nilIface, .nilIface] rfl rfl ?hc ?h1 (by decide) (by decide) (by simp) ?_)
  case hc =>
    intro j u hj
    have hj3 : j < 3 := by have := (List.getElem?_eq_some_iff.1 hj).1; simpa using this
    have hu : u = .nilIface := by
      match j, hj3, hj with
      | 0, _, hj => simpa using hj.symm
      | 1, _, hj => simpa using hj.symm
      | 2, _, hj => simpa using hj.symm
    have hc := h j hj3
    rw [hu, Addr.add_lit, Nat.zero_add, World.cell?_of_block (w := w) (Below.heap_alloc w _ _ (World.block_lt_of_cell? w _ hc))]
    exact hc
  case h1 => intro u hu; simp at hu; subst hu; rfl
  intro v' w1 hown1 hgrow1 _
  obtain ⟨g', c, hv⟩ : ∃ g' c, v' = .slice (some ⟨g', 0, none⟩) 3 c := by
    rcases hown1.2 with ⟨_, h0⟩ | ⟨g', c, _, hv, _⟩
    · cases h0
    · exact ⟨g', c, hv⟩
  rw [hv]
  go_wp2
  go_ret
  have hs := hgrow1.size
  simp at hs
  exact ⟨g', c, rfl, ((Below.refl _ _).alloc (Nat.le_refl _) _).grown hgrow1 (by simp) (fun k hk => by cases hk; exact Nat.le_refl _), by omega⟩

theorem make3 (w : World) : (Instr.makeSlice 40 (.int .i64 3) (.int .i64 3)).run Yba.prog w = .ok (.slice (some ⟨w.heap.size, 0, none⟩) 3 3) (w.alloc (.cells #[.bool false, .bool false, .bool false] 4)) := by kernel_rfl

/-- What NewMulti leaves. -/
def NewAt (w w' : World) (v : Value) : Prop := ∃ b bm lb, v = .pointer (some ⟨b, 0, none⟩) ∧ MultiAt w' b bm (.slice (some ⟨lb, 0, none⟩) 3 3) 3 0 (.map []) ∧ (∀ j, j < 3 → w'.cell? ⟨lb, j, none⟩ = some (.bool false)) ∧
  lb ≠ b ∧ lb ≠ bm ∧ w.heap.size ≤ b ∧ w.heap.size ≤ bm ∧ w.heap.size ≤ lb ∧ Below w.heap.size w w'

theorem NewAt.mk {w w1 : World} {st : Value} {bm lb : Nat} (hm : w1.ownsMap (H := Unit) Yba.prog 47 (plainElem Yba.prog 4) bm 0 (.map [])) (hl : ∀ j, j < 3 → w1.cell? ⟨lb, j, none⟩ = some (.bool false)) (hbm : w.heap.size ≤ bm) (hlb : w.heap.size ≤ lb) (hb : Below w.heap.size w w1) (b : Nat) (e : b = w1.heap.size) :
    NewAt w (w1.alloc (.cells #[st, .nilFunc, .int .i32 0, .int .u32 0, .slice (some ⟨lb, 0, none⟩) 3 3, .int .i64 3, .nilIface, .map (some bm)] 45)) (.pointer (some ⟨b, 0, none⟩)) := by
  subst e
  have hf := fresh_multi w1 st (.slice (some ⟨lb, 0, none⟩) 3 3) 3 bm hm
  have l0 := hl 0 (by omega)
  have hlt := World.block_lt_of_cell? w1 _ l0
  refine ⟨w1.heap.size, bm, lb, rfl, hf, fun j hj => ?_, by simp at hlt; omega, ?_, hb.size, hbm, hlb, hb.alloc hb.size _⟩
  · have := hl j hj
    rw [← this]
    exact World.cell?_of_block (w := w1) (Below.heap_alloc w1 _ _ hlt)
  · intro e
    subst e
    obtain ⟨es, ck, hh, _⟩ := hm
    simp [World.cell?, hh] at l0


theorem undrew {B : Nat} {w w' : World} (h : Below B w.drew w') : Below B w w' := ⟨h.os, h.tape, h.output, h.size, h.block⟩
abbrev S3 : Obj := .cells #[.bool false, .bool false, .bool false] 4
abbrev M0 : Obj := .map #[] 0
theorem s3_cells (w : World) : ∀ j, j < 3 → (w.alloc S3).cell? ⟨w.heap.size, j, none⟩ = some (.bool false) := by
  intro j hj
  match j, hj with
  | 0, _ => simp
  | 1, _ => simp
  | 2, _ => simp
theorem below_cells {B : Nat} {w w' : World} (hb : Below B w w') {lb : Nat} (hlb : lb < B) (h : ∀ j, j < 3 → w.cell? ⟨lb, j, none⟩ = some (.bool false)) : ∀ j, j < 3 → w'.cell? ⟨lb, j, none⟩ = some (.bool false) :=
  fun j hj => (hb.cell (p := ⟨lb, j, none⟩) hlb).trans (h j hj)
theorem below_map {B : Nat} {w w' : World} (hb : Below B w w') {bm : Nat} (hbm : bm < B) (_hB : B ≤ w.heap.size) (h : w.ownsMap (H := Unit) Yba.prog 47 (plainElem Yba.prog 4) bm 0 (.map [])) : w'.ownsMap (H := Unit) Yba.prog 47 (plainElem Yba.prog 4) bm 0 (.map []) := by
  obtain ⟨es, ck, hh, r⟩ := h
  exact ⟨es, ck, (hb.block bm hbm).trans hh, r⟩
theorem made (w : World) : (w.alloc M0).ownsMap (H := Unit) Yba.prog 47 (plainElem Yba.prog 4) w.heap.size 0 (.map []) := World.ownsMap_made w _ _ _
theorem sz (w : World) (o : Obj) : (w.alloc o).heap.size = w.heap.size + 1 := by simp

theorem close1 {w w' : World} {st : Value} (hb : Below w.drew.heap.size w.drew w') : NewAt w (((w'.alloc S3).alloc M0).alloc (.cells #[st, .nilFunc, .int .i32 0, .int .u32 0, .slice (some ⟨w'.heap.size, 0, none⟩) 3 3, .int .i64 3, .nilIface, .map (some (w'.heap.size + 1))] 45)) (.pointer (some ⟨w'.heap.size + 1 + 1, 0, none⟩)) := by
  have hb' : Below w.heap.size w w' := undrew hb
  have hs := hb'.size
  have hm := made (w'.alloc S3)
  rw [sz] at hm
  have hl := below_cells ((Below.refl (w'.heap.size + 1) (w'.alloc S3)).alloc (by rw [sz]; exact Nat.le_refl _) M0) (lb := w'.heap.size) (by omega) (s3_cells w')
  exact NewAt.mk hm hl (by omega) (by omega) ((hb'.alloc hs _).alloc (by rw [sz]; omega) _) _ (by rw [sz, sz])
theorem close2 {w w' : World} {st : Value} (hb : Below w.drew.heap.size w.drew w') : NewAt w (((w'.alloc M0).alloc S3).alloc (.cells #[st, .nilFunc, .int .i32 0, .int .u32 0, .slice (some ⟨w'.heap.size + 1, 0, none⟩) 3 3, .int .i64 3, .nilIface, .map (some w'.heap.size)] 45)) (.pointer (some ⟨w'.heap.size + 1 + 1, 0, none⟩)) := by
  have hb' : Below w.heap.size w w' := undrew hb
  have hs := hb'.size
  have hl := s3_cells (w'.alloc M0)
  rw [sz] at hl
  exact NewAt.mk ((made w').alloc S3) hl (by omega) (by omega) ((hb'.alloc hs _).alloc (by rw [sz]; omega) _) _ (by rw [sz, sz])
theorem close3 {w w' : World} {st : Value} (hb : Below (w.alloc S3).drew.heap.size (w.alloc S3).drew w') : NewAt w ((w'.alloc M0).alloc (.cells #[st, .nilFunc, .int .i32 0, .int .u32 0, .slice (some ⟨w.heap.size, 0, none⟩) 3 3, .int .i64 3, .nilIface, .map (some w'.heap.size)] 45)) (.pointer (some ⟨w'.heap.size + 1, 0, none⟩)) := by
  have hb' : Below (w.heap.size + 1) (w.alloc S3) w' := by have h : Below (w.alloc S3).heap.size (w.alloc S3) w' := undrew hb; rw [sz] at h; exact h
  have hs := hb'.size
  rw [sz] at hs
  have h0 : Below w.heap.size w w' := ((Below.refl _ w).alloc (Nat.le_refl _) S3).trans (hb'.mono (by omega))
  have hl := below_cells ((Below.refl w'.heap.size w').alloc (Nat.le_refl _) M0) (lb := w.heap.size) (by omega) (below_cells hb' (by omega) (s3_cells w))
  exact NewAt.mk (made w') hl (by omega) (by omega) (h0.alloc h0.size _) _ (by rw [sz])
theorem close4 {w w' : World} {st : Value} (hb : Below ((w.alloc S3).alloc M0).drew.heap.size ((w.alloc S3).alloc M0).drew w') : NewAt w (w'.alloc (.cells #[st, .nilFunc, .int .i32 0, .int .u32 0, .slice (some ⟨w.heap.size, 0, none⟩) 3 3, .int .i64 3, .nilIface, .map (some (w.heap.size + 1))] 45)) (.pointer (some ⟨w'.heap.size, 0, none⟩)) := by
  have hb' : Below (w.heap.size + 1 + 1) ((w.alloc S3).alloc M0) w' := by have h : Below ((w.alloc S3).alloc M0).heap.size ((w.alloc S3).alloc M0) w' := undrew hb; rw [sz, sz] at h; exact h
  have h0 : Below w.heap.size w w' := (((Below.refl _ w).alloc (Nat.le_refl _) S3).alloc (by rw [sz]; omega) M0).trans (hb'.mono (by omega))
  have hm := made (w.alloc S3)
  rw [sz] at hm
  have hl := below_cells ((Below.refl (w.heap.size + 1) (w.alloc S3)).alloc (by rw [sz]; exact Nat.le_refl _) M0) (lb := w.heap.size) (by omega) (s3_cells w)
  exact NewAt.mk (below_map hb' (by omega) (by rw [sz, sz]; exact Nat.le_refl _) hm) (below_cells hb' (by omega) hl) (by omega) (by omega) h0 _ rfl
theorem close5 {w w' : World} {st : Value} (hb : Below (w.alloc M0).drew.heap.size (w.alloc M0).drew w') : NewAt w ((w'.alloc S3).alloc (.cells #[st, .nilFunc, .int .i32 0, .int .u32 0, .slice (some ⟨w'.heap.size, 0, none⟩) 3 3, .int .i64 3, .nilIface, .map (some w.heap.size)] 45)) (.pointer (some ⟨w'.heap.size + 1, 0, none⟩)) := by
  have hb' : Below (w.heap.size + 1) (w.alloc M0) w' := by have h : Below (w.alloc M0).heap.size (w.alloc M0) w' := undrew hb; rw [sz] at h; exact h
  have hs := hb'.size
  rw [sz] at hs
  have h0 : Below w.heap.size w w' := ((Below.refl _ w).alloc (Nat.le_refl _) M0).trans (hb'.mono (by omega))
  exact NewAt.mk ((below_map hb' (by omega) (by rw [sz]; exact Nat.le_refl _) (made w)).alloc S3) (s3_cells w') (by omega) (by omega) (h0.alloc h0.size _) _ (by rw [sz])
theorem close6 {w w' : World} {st : Value} (hb : Below ((w.alloc M0).alloc S3).drew.heap.size ((w.alloc M0).alloc S3).drew w') : NewAt w (w'.alloc (.cells #[st, .nilFunc, .int .i32 0, .int .u32 0, .slice (some ⟨w.heap.size + 1, 0, none⟩) 3 3, .int .i64 3, .nilIface, .map (some w.heap.size)] 45)) (.pointer (some ⟨w'.heap.size, 0, none⟩)) := by
  have hb' : Below (w.heap.size + 1 + 1) ((w.alloc M0).alloc S3) w' := by have h : Below ((w.alloc M0).alloc S3).heap.size ((w.alloc M0).alloc S3) w' := undrew hb; rw [sz, sz] at h; exact h
  have h0 : Below w.heap.size w w' := (((Below.refl _ w).alloc (Nat.le_refl _) M0).alloc (by rw [sz]; omega) S3).trans (hb'.mono (by omega))
  have hl := s3_cells (w.alloc M0)
  rw [sz] at hl
  exact NewAt.mk (below_map hb' (by omega) (by rw [sz, sz]; exact Nat.le_refl _) ((made w).alloc S3)) (below_cells hb' (by omega) hl) (by omega) (by omega) h0 _ rfl

set_option maxHeartbeats 1000000 in
theorem new3 (g : Nat) (w : World) (h : ∀ j, j < 3 → w.cell? ⟨g, j, none⟩ = some .nilIface) : Calls Yba.prog 5 #[.slice (some ⟨g, 0, none⟩) 3 3, .nilFunc] w fun e w' => ∃ v, e = .returned v ∧ NewAt w w' v := by
  have hmm := @run_makeMap Yba.prog
  have hmk := make3
  have hg : g < w.heap.size := World.block_lt_of_cell? w _ (h 0 (by omega))
  go_enter Yba.func5, Yba.ntmps5
  go_wp2_with fail
  go_region_with (go_at_call 8; refine (clone3 g _ ?_).mono ?_; (refine fun j hj => (Below.cell (B := w.heap.size) (w := w) (p := ⟨g, j, none⟩) ?_ hg).trans (h j hj); repeat (first | exact Below.refl _ _ | apply Below.drew | refine Below.alloc ?_ (by simp <;> omega) _)); rintro e w' ⟨g', c, rfl, hb, hsz⟩)
  all_goals
    go_wp2
    go_ret
    refine ⟨_, rfl, ?_⟩
    first | exact close1 hb | exact close2 hb | exact close3 hb | exact close4 hb | exact close5 hb | exact close6 hb
end Go.Proofs.Ybulkbra
