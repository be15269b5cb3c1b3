/-
  WHAT HOLDS BEHIND EACH CALL OF pass IN LawS0130AScript.
-/
import Derived.Test.YbulkbraNew3
namespace Go.Proofs.Ybulkbra
open Go.RowKit Go.Maps

/-- The law's three keys. -/
def keyS (j : Nat) : ByteArray := match j with | 0 => ⟨#[97]⟩ | 1 => ⟨#[98, 98]⟩ | _ => ⟨#[]⟩
theorem keyS_le (j : Nat) : (keyS j).size ≤ maxLen := by
  match j with
  | 0 => exact (by decide : (⟨#[97]⟩ : ByteArray).size ≤ maxLen)
  | 1 => exact (by decide : (⟨#[98, 98]⟩ : ByteArray).size ≤ maxLen)
  | _ + 2 => exact (by decide : (⟨#[]⟩ : ByteArray).size ≤ maxLen)
theorem keyS_inj {j k : Nat} (hj : j < 3) (hk : k < 3) (h : keyS j = keyS k) : j = k := by
  have hs : (keyS j).size = (keyS k).size := by rw [h]
  match j, hj, k, hk, hs with
  | 0, _, 0, _, _ => rfl
  | 0, _, 1, _, h => exact absurd h (by decide)
  | 0, _, 2, _, h => exact absurd h (by decide)
  | 1, _, 0, _, h => exact absurd h (by decide)
  | 1, _, 1, _, _ => rfl
  | 1, _, 2, _, h => exact absurd h (by decide)
  | 2, _, 0, _, h => exact absurd h (by decide)
  | 2, _, 1, _, h => exact absurd h (by decide)
  | 2, _, 2, _, _ => rfl
theorem wf3 {i : Nat} (h : i < 3) : (Lit.int .i64 (i : Int)).wf = true := WalkArith.wf_i64 (by omega)
theorem klS_inj {i j i' j' : Nat} (hi : i < 3) (hj : j < 3) (hi' : i' < 3) (hj' : j' < 3) (h : kl i (keyS j) = kl i' (keyS j')) : i = i' ∧ j = j' := by
  obtain ⟨h1, h2⟩ := kl_inj (wf3 hi) (keyS_le j) (wf3 hi') (keyS_le j') h
  exact ⟨by omega, keyS_inj hj hj' h2⟩

def put2 (M : Nat → Nat → Bool) (i j : Nat) : Nat → Nat → Bool := fun a b => if a = i ∧ b = j then true else M a b

structure Inv (w wr : World) (b bm lb kb mb n c : Nat) (M : Nat → Nat → Bool) (D : DataW Unit) : Prop where
  multi : MultiAt wr b bm (.slice (some ⟨lb, 0, none⟩) 3 3) 3 n D
  lost : ∀ j, j < 3 → wr.cell? ⟨lb, j, none⟩ = some (.bool false)
  keys : ∀ j, j < 3 → wr.cell? ⟨kb, j, none⟩ = some (.string (keyS j))
  model : ∀ i j, i < 3 → j < 3 → wr.cell? ⟨mb, i * 3 + j, none⟩ = some (.bool (M i j))
  modelF : ∀ i j, i < 3 → j < 3 → wr.frozen? ⟨mb, i * 3 + j, none⟩ = false
  size : Maps.size D = c
  has : ∀ i j : Nat, i < 3 → j < 3 → Maps.has D (kl i (keyS j)) = M i j
  at' : ∀ i j : Nat, i < 3 → j < 3 → D.atKey (kl i (keyS j)) (.lit (.bool false)) = .lit (.bool (M i j))
  ne : kb ≠ b ∧ kb ≠ bm ∧ lb ≠ b ∧ lb ≠ bm ∧ mb ≠ b ∧ mb ≠ bm ∧ mb ≠ kb ∧ mb ≠ lb
  ge : w.heap.size ≤ b ∧ w.heap.size ≤ bm ∧ w.heap.size ≤ mb
  below : Below w.heap.size w wr

/-- What a world that keeps the old blocks keeps. -/
theorem MultiAt.kept {w w' : World} {b bm n : Nat} {lost : Value} {left : Int} {D : DataW Unit} (h : MultiAt w b bm lost left n D) (hb : w'.heap[b]? = w.heap[b]?) (hm : w'.heap[bm]? = w.heap[bm]?) : MultiAt w' b bm lost left n D := by
  have kc : ∀ o, w'.cell? ⟨b, o, none⟩ = w.cell? ⟨b, o, none⟩ := fun o => World.cell?_of_block (w := w) hb
  refine ⟨(kc 2).trans h.c2, (kc 4).trans h.c4, (kc 5).trans h.c5, (kc 6).trans h.c6, (kc 7).trans h.c7, (World.frozen?_of_block (w := w) (a := ⟨b, 2, none⟩) hb).trans h.f2, h.ne, ?_⟩
  obtain ⟨es, ck, hh, r⟩ := h.map
  exact ⟨es, ck, hm.trans hh, r⟩

theorem Inv.alloc {w wr : World} {b bm lb kb mb n c : Nat} {M : Nat → Nat → Bool} {D : DataW Unit} (h : Inv w wr b bm lb kb mb n c M D) (o : Obj) : Inv w (wr.alloc o) b bm lb kb mb n c M D := by
  have lt : ∀ p : Addr, ∀ v, wr.cell? p = some v → (wr.alloc o).cell? p = some v := fun p v hv => by
    rw [← hv]; exact World.cell?_of_block (w := wr) (Below.heap_alloc wr o _ (World.block_lt_of_cell? wr _ hv))
  refine ⟨h.multi.kept (Below.heap_alloc wr o _ (World.block_lt_of_cell? wr _ h.multi.c2)) (Below.heap_alloc wr o _ h.multi.map.lt), fun j hj => lt _ _ (h.lost j hj), fun j hj => lt _ _ (h.keys j hj), fun i j hi hj => lt _ _ (h.model i j hi hj), fun i j hi hj => ?_, h.size, h.has, h.at', h.ne, h.ge, h.below.alloc h.below.size o⟩
  rw [← h.modelF i j hi hj]
  exact World.frozen?_of_block (w := wr) (a := ⟨mb, i * 3 + j, none⟩) (Below.heap_alloc wr o _ (World.block_lt_of_cell? wr _ (h.model i j hi hj)))

/-- Another world with the same blocks. -/
theorem Inv.drew {w wr : World} {b bm lb kb mb n c : Nat} {M : Nat → Nat → Bool} {D : DataW Unit} (h : Inv w wr b bm lb kb mb n c M D) : Inv w wr.drew b bm lb kb mb n c M D :=
  ⟨h.multi.drew, h.lost, h.keys, h.model, h.modelF, h.size, h.has, h.at', h.ne, h.ge, h.below.drew⟩

/-- The lock taken and let go, nothing else: asks. -/
theorem Inv.only {w wr w' : World} {b bm lb kb mb n c : Nat} {M : Nat → Nat → Bool} {D : DataW Unit} (h : Inv w wr b bm lb kb mb n c M D) (hM : MultiAt w' b bm (.slice (some ⟨lb, 0, none⟩) 3 3) 3 n D) (ho : Only2 b bm wr w') : Inv w w' b bm lb kb mb n c M D := by
  obtain ⟨k1, k2, l1, l2, m1, m2, _, _⟩ := h.ne
  exact ⟨hM, fun j hj => (ho.cell l1 l2).trans (h.lost j hj), fun j hj => (ho.cell k1 k2).trans (h.keys j hj), fun i j hi hj => (ho.cell m1 m2).trans (h.model i j hi hj), fun i j hi hj => (ho.frozen m1 m2).trans (h.modelF i j hi hj), h.size, h.has, h.at', h.ne, h.ge, ho.below h.below h.ge.1 h.ge.2.1⟩

/-- pass at a pair that is there. -/
theorem Inv.pass_old {w wr w' : World} {b bm lb kb mb n c : Nat} {M : Nat → Nat → Bool} {D : DataW Unit} (h : Inv w wr b bm lb kb mb n c M D) {i j : Nat} (hi : i < 3) (hj : j < 3) (hM' : M i j = true)
    (hM : MultiAt w' b bm (.slice (some ⟨lb, 0, none⟩) 3 3) 3 (n + 1) (D.put (kl i (keyS j)) (.lit (.bool true)))) (ho : Only2 b bm wr w') : Inv w w' b bm lb kb mb (n + 1) c M (D.put (kl i (keyS j)) (.lit (.bool true))) := by
  obtain ⟨k1, k2, l1, l2, m1, m2, _, _⟩ := h.ne
  have hk := kl_key (wf3 hi) (keyS_le j)
  refine ⟨hM, fun j hj => (ho.cell l1 l2).trans (h.lost j hj), fun j hj => (ho.cell k1 k2).trans (h.keys j hj), fun i j hi hj => (ho.cell m1 m2).trans (h.model i j hi hj), fun i j hi hj => (ho.frozen m1 m2).trans (h.modelF i j hi hj), ?_, ?_, ?_, h.ne, h.ge, ho.below h.below h.ge.1 h.ge.2.1⟩
  · rw [size_put (h.multi.map.tidy law47), h.has i j hi hj, hM', if_pos rfl]; exact h.size
  · intro i' j' hi' hj'
    by_cases e : i' = i ∧ j' = j
    · rw [e.1, e.2, has_put_same h.multi.map.isMap hk, hM']
    · rw [has_put_other (fun e' => e (klS_inj hi' hj' hi hj e'))]; exact h.has i' j' hi' hj'
  · intro i' j' hi' hj'
    by_cases e : i' = i ∧ j' = j
    · rw [e.1, e.2, atKey_put_same h.multi.map.isMap hk, hM']
    · rw [atKey_put_other (fun e' => e (klS_inj hi' hj' hi hj e'))]; exact h.at' i' j' hi' hj'

/-- pass at a new pair, and the model's cell set. -/
theorem Inv.pass_new {w wr w' : World} {b bm lb kb mb n c : Nat} {M : Nat → Nat → Bool} {D : DataW Unit} (h : Inv w wr b bm lb kb mb n c M D) {i j : Nat} (hi : i < 3) (hj : j < 3) (hM' : M i j = false)
    (hM : MultiAt w' b bm (.slice (some ⟨lb, 0, none⟩) 3 3) 3 (n + 1) (D.put (kl i (keyS j)) (.lit (.bool true)))) (ho : Only2 b bm wr w') : Inv w (w'.setCell ⟨mb, i * 3 + j, none⟩ (.bool true)) b bm lb kb mb (n + 1) (c + 1) (put2 M i j) (D.put (kl i (keyS j)) (.lit (.bool true))) := by
  obtain ⟨k1, k2, l1, l2, m1, m2, m3, m4⟩ := h.ne
  have hk := kl_key (wf3 hi) (keyS_le j)
  have nb : ∀ k, k ≠ mb → (w'.setCell ⟨mb, i * 3 + j, none⟩ (.bool true)).heap[k]? = w'.heap[k]? := fun k hk => Below.heap_setCell _ _ _ _ hk
  refine ⟨hM.kept (nb b (fun e => m1 e.symm)) (nb bm (fun e => m2 e.symm)), fun j hj => ?_, fun j hj => ?_, fun i' j' hi' hj' => ?_, fun i' j' hi' hj' => ?_, ?_, ?_, ?_, h.ne, h.ge, (ho.below h.below h.ge.1 h.ge.2.1).setCell h.ge.2.2 _⟩
  · exact (World.cell?_of_block (w := w') (a := ⟨lb, j, none⟩) (nb lb (fun e => m4 e.symm))).trans ((ho.cell l1 l2).trans (h.lost j hj))
  · exact (World.cell?_of_block (w := w') (a := ⟨kb, j, none⟩) (nb kb (fun e => m3 e.symm))).trans ((ho.cell k1 k2).trans (h.keys j hj))
  · have hc : w'.cell? ⟨mb, i' * 3 + j', none⟩ = some (.bool (M i' j')) := (ho.cell m1 m2).trans (h.model i' j' hi' hj')
    by_cases e : i' = i ∧ j' = j
    · obtain ⟨rfl, rfl⟩ := e
      rw [World.cell?_setCell_same w' _ _ hc]; simp [put2]
    · rw [World.cell?_setCell_other w' ⟨mb, i * 3 + j, none⟩ ⟨mb, i' * 3 + j', none⟩ _ (by intro e'; have h9 := congrArg Addr.off e'; simp only at h9; exact e ⟨by omega, by omega⟩), hc]; simp [put2, e]
  · rw [World.frozen?_setCell]; exact (ho.frozen m1 m2).trans (h.modelF i' j' hi' hj')
  · rw [size_put (h.multi.map.tidy law47), h.has i j hi hj, hM', if_neg (by simp), h.size]
  · intro i' j' hi' hj'
    by_cases e : i' = i ∧ j' = j
    · rw [e.1, e.2, has_put_same h.multi.map.isMap hk]; simp [put2]
    · rw [has_put_other (fun e' => e (klS_inj hi' hj' hi hj e')), h.has i' j' hi' hj']; simp [put2, e]
  · intro i' j' hi' hj'
    by_cases e : i' = i ∧ j' = j
    · rw [e.1, e.2, atKey_put_same h.multi.map.isMap hk]; simp [put2]
    · rw [atKey_put_other (fun e' => e (klS_inj hi' hj' hi hj e')), h.at' i' j' hi' hj']; simp [put2, e]
end Go.Proofs.Ybulkbra
