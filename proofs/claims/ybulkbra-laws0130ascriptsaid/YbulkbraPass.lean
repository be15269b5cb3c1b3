/-
  (*Multi).pass (function 6) AND (*Multi).asks (function 7): one goroutine, the lock free. A Multi is eight cells: 0 stores, 1 unreachable, 2, 3 the lock, 4 lost, 5 left, 6 gone, 7 passed.
-/
import Derived.Test.YbulkbraRows
import Derived.Test.YbulkbraLocks
import Derived.Test.YbulkbraMap
import Derived.Conc.MuLone
import Derived.WalkKit
import Derived.WalkSpells
namespace Go.Proofs.Ybulkbra
open Go.RowKit Go.Maps
open Go.MuLone

/-- Block b holds a Multi whose lock is free, whose map is block bm and reads as D. -/
structure MultiAt (w : World) (b bm : Nat) (lost : Value) (left : Int) (n : Nat) (D : DataW Unit) : Prop where
  c2 : w.cell? ⟨b, 2, none⟩ = some (.int .i32 0)
  c4 : w.cell? ⟨b, 4, none⟩ = some lost
  c5 : w.cell? ⟨b, 5, none⟩ = some (.int .i64 left)
  c6 : w.cell? ⟨b, 6, none⟩ = some .nilIface
  c7 : w.cell? ⟨b, 7, none⟩ = some (.map (some bm))
  f2 : w.frozen? ⟨b, 2, none⟩ = false
  ne : bm ≠ b
  map : w.ownsMap Yba.prog 47 (plainElem Yba.prog 4) bm n D

/-- Of w only the blocks b and bm may have turned; none has come or gone. -/
structure Only2 (b bm : Nat) (w w' : World) : Prop where
  os : w'.os = w.os
  tape : w'.tape = w.tape
  output : w'.output = w.output
  size : w'.heap.size = w.heap.size
  block : ∀ k, k ≠ b → k ≠ bm → w'.heap[k]? = w.heap[k]?

theorem Only2.cell {b bm : Nat} {w w' : World} (h : Only2 b bm w w') {p : Addr} (h1 : p.block ≠ b) (h2 : p.block ≠ bm) : w'.cell? p = w.cell? p := World.cell?_of_block (w := w) (h.block _ h1 h2)
theorem Only2.frozen {b bm : Nat} {w w' : World} (h : Only2 b bm w w') {p : Addr} (h1 : p.block ≠ b) (h2 : p.block ≠ bm) : w'.frozen? p = w.frozen? p := World.frozen?_of_block (w := w) (h.block _ h1 h2)
theorem Only2.below {B b bm : Nat} {w0 w w' : World} (h : Only2 b bm w w') (hb : Below B w0 w) (h1 : B ≤ b) (h2 : B ≤ bm) : Below B w0 w' :=
  hb.trans ⟨h.os, h.tape, h.output, by rw [h.size]; exact Nat.le_refl _, fun k hk => h.block k (by omega) (by omega)⟩

/-- The lock taken and let go, the map turned in between. -/
theorem turned {w w1 : World} {b bm n n' : Nat} {lost : Value} {left : Int} {D D' : DataW Unit} (h : MultiAt w b bm lost left n D)
    (hown : w1.ownsMap Yba.prog 47 (plainElem Yba.prog 4) bm n' D') (ht : (w.setCell ⟨b, 2, none⟩ (.int .i32 1)).mapTurned w1 bm) :
    MultiAt (w1.setCell ⟨b, 2, none⟩ (.int .i32 0)) b bm lost left n' D' ∧ Only2 b bm w (w1.setCell ⟨b, 2, none⟩ (.int .i32 0)) := by
  have hg := ht.grown
  have hlt : b < w.heap.size := World.block_lt_of_cell? w _ h.c2
  have hb : w1.heap[b]? = (w.setCell ⟨b, 2, none⟩ (.int .i32 1)).heap[b]? := hg.block b (by simpa [World.setCell] using hlt) (fun e => h.ne (Option.some.inj e).symm)
  have k1 : ∀ o, w1.cell? ⟨b, o, none⟩ = (w.setCell ⟨b, 2, none⟩ (.int .i32 1)).cell? ⟨b, o, none⟩ := fun o => World.cell?_of_block (w := w.setCell ⟨b, 2, none⟩ (.int .i32 1)) hb
  have c2' : w1.cell? ⟨b, 2, none⟩ = some (.int .i32 1) := (k1 2).trans (World.cell?_setCell_same w ⟨b, 2, none⟩ (.int .i32 1) h.c2)
  have ko : ∀ o, o ≠ 2 → (w1.setCell ⟨b, 2, none⟩ (.int .i32 0)).cell? ⟨b, o, none⟩ = w.cell? ⟨b, o, none⟩ := fun o ho => by
    rw [World.cell?_setCell_other _ ⟨b, 2, none⟩ ⟨b, o, none⟩ _ (by simp), k1, World.cell?_setCell_other _ ⟨b, 2, none⟩ ⟨b, o, none⟩ _ (by simp)]
  refine ⟨⟨World.cell?_setCell_same w1 ⟨b, 2, none⟩ (.int .i32 0) c2', (ko 4 (by omega)).trans h.c4, (ko 5 (by omega)).trans h.c5, (ko 6 (by omega)).trans h.c6, (ko 7 (by omega)).trans h.c7, ?_, h.ne, hown.setCell (a := ⟨b, 2, none⟩) h.ne _⟩, ?_⟩
  · rw [World.frozen?_setCell, ht.frozen, World.frozen?_setCell]; exact h.f2
  · obtain ⟨es, ck, es', ck', hbm, rfl⟩ := ht
    refine ⟨rfl, rfl, rfl, by simp [World.setCell, ChangeMaps.setBlock], fun k h1 h2 => ?_⟩
    rw [Below.heap_setCell _ _ _ _ h1, ChangeMaps.heap_setBlock_other hbm _ h2, Below.heap_setCell _ _ _ _ h1]

set_option maxHeartbeats 1600000 in
theorem pass_any (b bm n : Nat) (lost : Value) (left : Int) (D : DataW Unit) (i : Int) (s : ByteArray) (w : World) (h : MultiAt w b bm lost left n D) (hn : n < maxLen) (wi : (Lit.int .i64 i).wf = true) (hs : s.size ≤ maxLen) :
    Calls Yba.prog 6 #[.pointer (some ⟨b, 0, none⟩), .int .i64 i, .string s] w fun e w' => e = .returned (.tuple #[]) ∧ MultiAt w' b bm lost left (n + 1) (D.put (kl i s) (.lit (.bool true))) ∧ Only2 b bm w w' := by
  have hkey := key_of wi hs
  have c2 := h.c2
  have c7 := h.c7
  have f2 := h.f2
  have hown1 := h.map.setCell (a := ⟨b, 2, none⟩) h.ne (.int .i32 1)
  go_enter_defers Yba.func6, Yba.ntmps6
  go_wp2_with (first
    | (go_at_call 9; refine (lock_free muLib ⟨b, 2, none⟩ _ c2 f2).mono ?_; rintro e w' ⟨rfl, rfl⟩)
    | (at_mapUpdate; refine wpList_mapUpdate_in _ rfl _ _ _ 43 rfl 47 4 law47 Yba.underlying43 _ bm n D rfl hown1 hn _ _ _ rfl rfl hkey _ [] (plainElem_bool Yba.underlying4 true) ?_; intro w1 hown2 hturn1))
  have c0' : (w.setCell ⟨b, 2, none⟩ (.int .i32 1)).cell? ⟨b, 2, none⟩ = some (.int .i32 1) := World.cell?_setCell_same w ⟨b, 2, none⟩ (.int .i32 1) c2
  have kc : w1.cell? ⟨b, 2, none⟩ = (w.setCell ⟨b, 2, none⟩ (.int .i32 1)).cell? ⟨b, 2, none⟩ := by
    have hblk := hturn1.grown.block b (World.block_lt_of_cell? _ _ c0') (fun e => h.ne (Option.some.inj e).symm)
    simp only [World.cell?, hblk]
  refine leaves_cons (f := 10) (args := #[.pointer (some ⟨b, 2, none⟩)]) (by simp) (by simp [go_sem]) ?_
  refine (unlock_deferred muLib ⟨b, 2, none⟩ .returning _ (kc.trans c0') ((hturn1.frozen _).trans (by simp [f2]))).mono ?_
  rintro e u' w'' ⟨rfl, rfl, rfl⟩
  exact ⟨_, results_none rfl _ _ _, rfl, turned h hown2 hturn1⟩

set_option maxHeartbeats 1600000 in
theorem asks_any (b bm lb n : Nat) (left : Int) (D : DataW Unit) (i : Int) (s : ByteArray) (w : World) (h : MultiAt w b bm (.slice (some ⟨lb, 0, none⟩) 3 3) left n D) (h0 : 0 ≤ i) (h3 : i < 3)
    (hl : w.cell? ⟨lb, i.toNat, none⟩ = some (.bool false)) (hlb : lb ≠ b) (hs : s.size ≤ maxLen) (c : Bool) (hc : D.atKey (kl i s) (.lit (.bool false)) = .lit (.bool c)) :
    Calls Yba.prog 7 #[.pointer (some ⟨b, 0, none⟩), .int .i64 i, .string s] w fun e w' => e = .returned (.bool (!c)) ∧ MultiAt w' b bm (.slice (some ⟨lb, 0, none⟩) 3 3) left n D ∧ Only2 b bm w w' := by
  have wi : (Lit.int .i64 i).wf = true := WalkArith.wf_i64 (by omega)
  have hkey := key_of wi hs
  have c2 := h.c2
  have c4 := h.c4
  have c7 := h.c7
  have f2 := h.f2
  have hown1 := h.map.setCell (a := ⟨b, 2, none⟩) h.ne (.int .i32 1)
  obtain ⟨c', hrun, hc'⟩ := hown1.lookup_bool law47 Yba.underlying43 Yba.underlying4 (zero4 _) hkey
  obtain rfl : c' = c := by rw [hc] at hc'; simpa using hc'.symm
  have hl1 : (w.setCell ⟨b, 2, none⟩ (.int .i32 1)).cell? ⟨lb, i.toNat, none⟩ = some (.bool false) := by rw [World.cell?_setCell_other _ ⟨b, 2, none⟩ ⟨lb, i.toNat, none⟩ _ (by simp)]; exact hl
  clear hc hc'
  go_enter_defers Yba.func7, Yba.ntmps7
  go_wp2_with (first
    | (go_at_call 9; refine (lock_free muLib ⟨b, 2, none⟩ _ c2 f2).mono ?_; rintro e w' ⟨rfl, rfl⟩))
  refine leaves_cons (f := 10) (args := #[.pointer (some ⟨b, 2, none⟩)]) (by simp) (by simp [go_sem]) ?_
  refine (unlock_deferred muLib ⟨b, 2, none⟩ .returning _ (World.cell?_setCell_same w ⟨b, 2, none⟩ (.int .i32 1) c2) (by simp [f2])).mono ?_
  rintro e u' w'' ⟨rfl, rfl, rfl⟩
  exact ⟨_, results_tmp rfl _ _ _, rfl, turned h hown1 hown1.turned_refl⟩
end Go.Proofs.Ybulkbra
