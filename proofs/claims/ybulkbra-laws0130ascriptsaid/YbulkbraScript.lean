/-
  THE WALK OF LawS0130AScript (function 3).
-/
import Derived.Test.YbulkbraInv
import Derived.BigQuiet
import Derived.Deep.QuietTactic
namespace Go.Proofs.Ybulkbra
open Go.RowKit Go.Maps

set_option maxHeartbeats 400000 in
theorem script_big (x : Option Addr) (n c : Nat) (w : World) (h : 1024 < (n : Int)) :
    Calls Yba.prog 3 #[.slice x n c] w fun e w' => e = .returned (.bool true) ∧ Below w.heap.size w w' := by
  go_enter Yba.func3, Yba.ntmps3
  go_wp2
  go_ret
  exact ⟨rfl, Below.refl _ _⟩

theorem mk26 (w : World) : (Instr.makeSlice 26 (.int .i64 3) (.int .i64 3)).run Yba.prog w = .ok (.slice (some ⟨w.heap.size, 0, none⟩) 3 3) (w.alloc (.cells #[.nilIface, .nilIface, .nilIface] 52)) := by kernel_rfl

theorem Inv.drewN {w wr : World} {b bm lb kb mb n c : Nat} {M : Nat → Nat → Bool} {D : DataW Unit} (h : Inv w wr b bm lb kb mb n c M D) : ∀ q, Inv w (wr.drewN q) b bm lb kb mb n c M D
  | 0 => h
  | q + 1 => (h.drewN q).drew

theorem Inv.look {w wr : World} {b bm lb kb mb n c : Nat} {M : Nat → Nat → Bool} {D : DataW Unit} (h : Inv w wr b bm lb kb mb n c M D) {i j : Nat} (hi : i < 3) (hj : j < 3) :
    (Instr.lookup 43 (.map (some bm)) (.agg #[.int .i64 (i : Int), .string (keyS j)]) false).run Yba.prog wr = .ok (.bool (M i j)) wr := by
  obtain ⟨c', hrun, hc⟩ := h.multi.map.lookup_bool law47 Yba.underlying43 Yba.underlying4 (zero4 _) (key_of (wf3 hi) (keyS_le j))
  rw [h.at' i j hi hj] at hc
  obtain rfl : M i j = c' := by simpa using hc
  exact hrun

set_option maxHeartbeats 1000000 in
theorem script_any (ao : Option Addr) (n c ab off : Nat) (I K : Nat → Nat) (w : World) (hn : ¬ 1024 < (n : Int)) (hn' : (n : Int) ≤ 1024)
    (hI : ∀ t, t < n → I t ≤ 255) (hK : ∀ t, t < n → K t ≤ 255)
    (hix : ∀ (t : Nat) (W : World), t < n → (Instr.indexAt 22 (.slice ao n c) (.int .i64 (t : Int))).run Yba.prog W = .ok (.pointer (some ⟨ab, off + t * 2, none⟩)) W)
    (hcI : ∀ t, t < n → w.cell? ⟨ab, off + t * 2, none⟩ = some (.int .u8 (I t))) (hcK : ∀ t, t < n → w.cell? ⟨ab, off + t * 2 + 1, none⟩ = some (.int .u8 (K t))) :
    Calls Yba.prog 3 #[.slice ao n c] w fun e w' => e = .returned (.bool true) ∧ Below w.heap.size w w' := by
  have hmk := mk26
  go_enter Yba.func3, Yba.ntmps3
  go_wp2_with fail
  refine (new3 (w.heap.size + 1) _ ?_).mono ?_
  · intro j hj
    match j, hj with
    | 0, _ => simp
    | 1, _ => simp
    | 2, _ => simp
  rintro e w1 ⟨v, rfl, b, bm, lb, rfl, hM, hl, lb1, lb2, gb, gbm, glb, hb⟩
  go_wp2
  have hinv : Inv w (w1.alloc (.cells #[.bool false, .bool false, .bool false, .bool false, .bool false, .bool false, .bool false, .bool false, .bool false] 28)) b bm lb w.heap.size w1.heap.size 0 0 (fun _ _ => false) (.map []) := by
    have hlt := World.block_lt_of_cell? w1 _ hM.c2
    have hltm := hM.map.lt
    have hltl := World.block_lt_of_cell? w1 _ (hl 0 (by omega))
    have kc : ∀ j, j < 3 → w1.cell? ⟨w.heap.size, j, none⟩ = some (.string (keyS j)) := fun j hj => by
      rw [hb.cell (p := ⟨w.heap.size, j, none⟩) (by simp; omega)]
      match j, hj with
      | 0, _ => simp [keyS]
      | 1, _ => simp [keyS]
      | 2, _ => simp [keyS]
    have al : ∀ p : Addr, ∀ v o, w1.cell? p = some v → (w1.alloc o).cell? p = some v := fun p v o hv => by
      rw [← hv]; exact World.cell?_of_block (w := w1) (Below.heap_alloc w1 o _ (World.block_lt_of_cell? w1 _ hv))
    simp only [World.size_alloc] at gb gbm glb
    have hbs := hb.size
    simp only [World.size_alloc] at hbs
    have hbw : Below w.heap.size w w1 := (((Below.refl _ w).alloc (Nat.le_refl _) _).alloc (by simp) _).trans (hb.mono (by simp; omega))
    refine ⟨hM.kept (Below.heap_alloc w1 _ _ hlt) (Below.heap_alloc w1 _ _ hltm), fun j hj => al _ _ _ (hl j hj), fun j hj => al _ _ _ (kc j hj), fun i j hi hj => ?_, fun i j hi hj => ?_, rfl, fun _ _ _ _ => rfl, fun _ _ _ _ => rfl, ⟨by omega, by omega, lb1, lb2, ?_, ?_, ?_, ?_⟩, ⟨by omega, by omega, hbw.size⟩, hbw.alloc hbw.size _⟩
    · match i, hi, j, hj with
      | 0, _, 0, _ => simp
      | 0, _, 1, _ => simp
      | 0, _, 2, _ => simp
      | 1, _, 0, _ => simp
      | 1, _, 1, _ => simp
      | 1, _, 2, _ => simp
      | 2, _, 0, _ => simp
      | 2, _, 1, _ => simp
      | 2, _, 2, _ => simp
    · simp
    · simp at hlt; omega
    · omega
    · omega
    · simp at hltl; omega
  clear hM hl lb1 lb2 gb gbm glb hb
  go_loopw [6, 21] (fun cnt idx wr => ∃ (k m c' : Nat) (M : Nat → Nat → Bool) (D : DataW Unit), k ≤ n ∧ m ≤ k ∧ idx = .int .i64 (k : Int) ∧ cnt = .int .i64 (c' : Int) ∧ c' ≤ k ∧ Inv w wr b bm lb w.heap.size w1.heap.size m c' M D) (fun _ idx _ => n - (intOf idx).toNat)
  case atStart => exact ⟨0, 0, 0, _, _, Nat.zero_le _, Nat.le_refl _, rfl, rfl, Nat.le_refl _, hinv⟩
  case round =>
    obtain ⟨k, m, c', M, D, hk, hm, rfl, rfl, hc', hI'⟩ := hrel
    by_cases hlt : k < n
    · have hx := fun W => hix k W hlt
      have i1 := hcI k hlt
      have i2 := hcK k hlt
      have hab : ab < w.heap.size := World.block_lt_of_cell? w _ i1
      have hIk : (I k : Int) ≤ 255 := by have := hI k hlt; omega
      have hKk : (K k : Int) ≤ 255 := by have := hK k hlt; omega
      have j1 : wr.cell? ⟨ab, off + k * 2, none⟩ = some (.int .u8 (I k)) := by rw [hI'.below.cell (p := ⟨ab, off + k * 2, none⟩) hab]; exact i1
      have j2 : wr.cell? ⟨ab, off + k * 2 + 1, none⟩ = some (.int .u8 (K k)) := by rw [hI'.below.cell (p := ⟨ab, off + k * 2 + 1, none⟩) hab]; exact i2
      clear i1 i2
      have HI := (show Hid (Inv w wr b bm lb w.heap.size w1.heap.size m c' M D) from hI')
      clear hI' hinv
      have hi3 : I k % 3 < 3 := Nat.mod_lt _ (by omega)
      have hk3 : K k % 3 < 3 := Nat.mod_lt _ (by omega)
      have hkc : ∀ o, (wr.alloc o).cell? ⟨w.heap.size, K k % 3, none⟩ = some (.string (keyS (K k % 3))) := fun o => (HI.out.alloc o).keys _ hk3
      go_wp2_with fail
      refine (pass_any b bm m _ 3 D ((I k : Int) % 3) (keyS (K k % 3)) _ (HI.out.alloc _).multi (by unfold maxLen; omega) (WalkArith.wf_i64 (by omega)) (keyS_le _)).mono ?_
      rintro e w2 ⟨rfl, hM2, ho2⟩
      have em : ((I k : Int) % 3) = ((I k % 3 : Nat) : Int) := by omega
      have HM2 : Hid (MultiAt w2 b bm (.slice (some ⟨lb, 0, none⟩) 3 3) 3 (m + 1) (D.put (kl ((I k % 3 : Nat) : Int) (keyS (K k % 3))) (.lit (.bool true)))) := by rw [← em]; exact hM2
      clear hM2 em
      have hmc : w2.cell? ⟨w1.heap.size, (I k % 3) * 3 + K k % 3, none⟩ = some (.bool (M (I k % 3) (K k % 3))) := (ho2.cell (HI.out.ne.2.2.2.2.1) (HI.out.ne.2.2.2.2.2.1)).trans ((HI.out.alloc _).model _ _ hi3 hk3)
      have hmf : w2.frozen? ⟨w1.heap.size, (I k % 3) * 3 + K k % 3, none⟩ = false := (ho2.frozen (HI.out.ne.2.2.2.2.1) (HI.out.ne.2.2.2.2.2.1)).trans ((HI.out.alloc _).modelF _ _ hi3 hk3)
      clear hkc
      cases hMb : M (I k % 3) (K k % 3) with
      | true =>
        rw [hMb] at hmc
        go_wp2
        exact ⟨⟨k + 1, m + 1, c', M, _, by omega, by omega, by go_num, rfl, by omega, (HI.out.alloc _).pass_old hi3 hk3 hMb HM2.out ho2⟩, by simp [intOf]; omega⟩
      | false =>
        rw [hMb] at hmc
        go_wp2
        exact ⟨⟨k + 1, m + 1, c' + 1, _, _, by omega, by omega, by go_num, by go_num, by omega, (HI.out.alloc _).pass_new hi3 hk3 hMb HM2.out ho2⟩, by simp [intOf]; omega⟩
    · have c7 := hI'.multi.c7
      have c6 := hI'.multi.c6
      have c5 := hI'.multi.c5
      have hlen := hI'.multi.map.len Yba.underlying43
      rw [hI'.size] at hlen
      have HI := (show Hid (Inv w wr b bm lb w.heap.size w1.heap.size m c' M D) from hI')
      clear hI' hinv hcI hcK hix hI hK
      have hcc : ((c' : Int) != (c' : Int)) = false := by simp
      go_wp2_with fail
      clear hcc c7 c6 c5 hlen
      obtain ⟨wo, hwo⟩ : ∃ wo : World, wo = wr := ⟨_, rfl⟩
      rw [← hwo] at HI ⊢
      clear hwo
      go_loopw [11] (fun idx wr => ∃ i : Nat, i ≤ 3 ∧ idx = .int .i64 (i : Int) ∧ Inv w wr b bm lb w.heap.size w1.heap.size m c' M D) (fun idx _ => 3 - (intOf idx).toNat)
      case atStart => exact ⟨0, by omega, rfl, HI.out⟩
      case round =>
        obtain ⟨i, hi, rfl, hJ⟩ := hrel
        by_cases hi3 : i < 3
        · have c4 := hJ.multi.c4
          have hl := hJ.lost i hi3
          have hie : (i : Int) < 3 := by omega
          have HJ := (show Hid (Inv w wr b bm lb w.heap.size w1.heap.size m c' M D) from hJ)
          clear hJ HI
          go_wp2_with fail
          clear c4 hl
          obtain ⟨wp, hwp⟩ : ∃ wp : World, wp = wr := ⟨_, rfl⟩
          rw [← hwp] at HJ ⊢
          clear hwp
          go_loopw [12] (fun idx wr => ∃ j : Nat, j ≤ 3 ∧ idx = .int .i64 (j : Int) ∧ Inv w wr b bm lb w.heap.size w1.heap.size m c' M D) (fun idx _ => 3 - (intOf idx).toNat)
          case atStart => exact ⟨0, by omega, rfl, HJ.out⟩
          case round =>
            obtain ⟨j, hj, rfl, hL⟩ := hrel
            by_cases hj3 : j < 3
            · have c7 := hL.multi.c7
              have kc := hL.keys j hj3
              have mc := hL.model i j hi3 hj3
              have hrun := fun q => (hL.drewN q).look hi3 hj3
              have HL := (show Hid (Inv w wr b bm lb w.heap.size w1.heap.size m c' M D) from hL)
              have hje : (j : Int) < 3 := by omega
              clear hL HJ
              go_wp2_with fail
              have hMM : (M i j != M i j) = false := by simp
              go_quiet (fail)
              go_wp2_with fail
              have HQ := (show Hid (Inv w (wr.drewN nq).drew b bm lb w.heap.size w1.heap.size m c' M D) from (HL.out.drewN nq).drew)
              have hne : ((!M i j) == M i j) = false := by cases M i j <;> rfl
              have mb1 := HL.out.ne.2.2.2.2.1
              have mb2 := HL.out.ne.2.2.2.2.2.1
              clear hrun
              go_region_with (go_at_call 7; refine (asks_any b bm lb m 3 D (i : Int) (keyS j) _ ?_ (by omega) (by omega) ?_ HL.out.ne.2.2.1 (keyS_le j) (M i j) (HL.out.at' i j hi3 hj3)).mono ?_; exact HQ.out.multi; exact HQ.out.lost i hi3; rintro e w5 ⟨rfl, hM5, ho5⟩; have mc5 : w5.cell? ⟨w1.heap.size, i * 3 + j, none⟩ = some (.bool (M i j)) := (ho5.cell mb1 mb2).trans mc)
              all_goals
                go_wp2
                go_roundw
                case rel => exact ⟨j + 1, by omega, by go_num, HQ.out.only hM5 ho5⟩
                case measure => simp [intOf]; omega
            · have HL := (show Hid (Inv w wr b bm lb w.heap.size w1.heap.size m c' M D) from hL)
              clear hL HJ
              go_wp2
              exact ⟨⟨i + 1, by omega, by go_num, HL.out⟩, by simp [intOf]; omega⟩
        · have HJ := (show Hid (Inv w wr b bm lb w.heap.size w1.heap.size m c' M D) from hJ)
          clear hJ HI
          go_wp2
          go_ret
          exact ⟨rfl, HJ.out.below⟩
end Go.Proofs.Ybulkbra
