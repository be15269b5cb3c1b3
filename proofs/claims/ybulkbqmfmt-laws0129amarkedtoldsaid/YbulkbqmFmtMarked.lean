/-
  THE WALK OF LawS0129AMarked (function 4).
-/
import Derived.Test.YbulkbqmFmtWalks
import Derived.OwnWalk
namespace Go.Proofs.YbulkbqmFmt
open Go.RowKit Go.Extern.Stop Go.Stop Go.Extern

theorem info5 : (Ybaf.prog.info? 5).map (fun i => (i.zero, i.size, i.bytes)) = some (some (.int .u8 0), 1, 1) := by kernel_rfl

set_option maxHeartbeats 400000 in
theorem mk_big (x : Option Addr) (n c : Nat) (m d : Int) (s : ByteArray) (w : World) (h : 1024 < (n : Int)) :
    Calls Ybaf.prog 4 #[.slice x n c, .int .u8 m, .int .u8 d, .string s] w fun e w' => e = .returned (.bool true) ∧ Below w.heap.size w w' := by
  go_enter Ybaf.func4, Ybaf.ntmps4
  go_wp2
  go_ret
  exact ⟨rfl, Below.refl _ _⟩

/-- The argument's cells, in a later world. -/
theorem cells_below {w w1 : World} {l : Nat} {Z : List Int} (hZ : Z.length = l) {ao : Option Addr} (hc : ∀ ad, ao = some ad → ∀ t, t < l → w.cell? (ad.add t) = some (.int .u8 (Z.getD t 0)))
    (hb : Below w.heap.size w w1) : ∀ ad, ao = some ad → ∀ t u, (Z.map (Value.int .u8))[t]? = some u → w1.cell? (ad.add t) = some u := by
  intro ad had t u hu
  have ht : t < l := by
    have := (List.getElem?_eq_some_iff.1 hu).1
    simpa [hZ] using this
  have c0 := hc ad had t ht
  have hlt := World.block_lt_of_cell? w _ c0
  rw [hb.cell hlt, c0]
  have e : (Z.map (Value.int .u8))[t]? = some (.int .u8 (Z.getD t 0)) := by simp [List.getD, show t < Z.length by omega]
  rw [e] at hu
  exact hu

set_option maxHeartbeats 1000000 in
theorem mk_main (F : Interp) (ao : Option Addr) (n c : Nat) (R : List Int) (m d : Int) (s : ByteArray) (w : World) (hF : F.answers w.tape) (hR : R.length = n) (hn : ¬ 1024 < (n : Int)) (hn' : (n : Int) ≤ 1024)
    (hao : ao = none → n = 0 ∧ c = 0) (hc : ∀ ad, ao = some ad → ∀ t, t < n → w.cell? (ad.add t) = some (.int .u8 (R.getD t 0)))
    (_hm : 0 ≤ m ∧ m ≤ 255) (_hd : 1 ≤ d ∧ d ≤ 255) (hd0 : (d == 0) = false) :
    Calls Ybaf.prog 4 #[.slice ao n c, .int .u8 m, .int .u8 d, .string s] w fun e w' => e = .returned (.bool true) ∧ Below w.heap.size w w' := by
  obtain ⟨i0, hi, hz0, hz1, hz2⟩ := info_parts info5
  go_enter Ybaf.func4, Ybaf.ntmps4
  go_wp2_with (first
    | (at_make; refine wpList_make_own _ rfl _ _ 22 rfl w.heap.size 5 i0 (.int .u8 0) 1 Ybaf.underlying22 hi hz0 hz1 _ _ _ (n + 1) rfl rfl (by omega) (by rw [hz2]; omega) (by unfold maxLen; omega) (Nat.le_refl _) ?_; intro w0 hown0 hgrow0)
    | (at_builtin; refine wpList_append_fits _ rfl (.tmp 19) (.tmp 21) 22 rfl w.heap.size 5 i0 1 Ybaf.underlying22 hi hz1 w.heap.size 0 (n + 1) _ rfl (hown0.alloc _) ⟨w0.heap.size, 0, none⟩ 1 1 [.int .u8 m] rfl rfl (by intro t u ht; match t, ht with | 0, ht => simp at ht; subst ht; simp [Addr.add]) (by intro u hu; simp at hu; subst hu; rfl) (by omega) ?_; intro w1 hown1 hgrow1; have hb1 : Below w.heap.size w w1 := (((Below.refl _ _).grown hgrow0 (Nat.le_refl _) (fun k h => by cases h)).alloc hgrow0.size _).grown hgrow1 (by have := hgrow0.size; simp; omega) (fun k hk => by cases hk; exact Nat.le_refl _))
    | (at_builtin; refine wpList_append_fits_any _ rfl (.tmp 23) (.tmp 24) 22 rfl w.heap.size 5 i0 1 Ybaf.underlying22 hi hz1 w.heap.size _ (n + 1) _ rfl hown1 _ _ _ (R.map (Value.int .u8)) rfl (by simp [hR]) hao (cells_below hR hc hb1) (ints_oneCell _ _) (by omega) ?_; intro w2 hown2 hgrow2))
  have hb2 : Below w.heap.size w w2 := hb1.grown hgrow2 hb1.size (fun k hk => by cases hk; exact Nat.le_refl _)
  have hm0 : w2.cell? ⟨w.heap.size, 0, none⟩ = some (.int .u8 m) := by rw [hown2.cellAt 0 (by omega)]; rfl
  have hl2 := hb2.size
  have hF2 : F.answers w2.tape := by rw [hb2.tape]; exact hF
  clear hgrow0 hgrow1 hgrow2 hown0 hown1 hown2 hb1
  refine (check_ok _ _ _ m m s _ (by simp; omega) (by omega) hm0 (by simp)).mono ?_
  clear hm0
  rintro e w3 ⟨rfl, rfl⟩
  go_wp2_with (first
    | (at_make; refine wpList_make_own _ rfl _ _ 22 rfl w.heap.size 5 i0 (.int .u8 0) 1 Ybaf.underlying22 hi hz0 hz1 _ _ _ (n + 1) rfl rfl (by omega) (by rw [hz2]; omega) (by unfold maxLen; omega) hl2 ?_; intro w4 hown4 hgrow4; have hl4 := Nat.le_trans hl2 hgrow4.size)
    | (at_builtin; refine wpList_append_fits _ rfl (.tmp 38) (.tmp 42) 22 rfl w.heap.size 5 i0 1 Ybaf.underlying22 hi hz1 w3.heap.size 0 (n + 1) _ rfl (hown4.alloc _) ⟨w4.heap.size, 0, none⟩ 1 1 [.int .u8 ((m + d) % 256)] rfl rfl (by intro t u ht; match t, ht with | 0, ht => simp at ht; subst ht; simp [Addr.add]) (by intro u hu; simp at hu; subst hu; rfl) (by omega) ?_; intro w5 hown5 hgrow5; have hb5 : Below w.heap.size w w5 := ((hb2.grown hgrow4 hl2 (fun k h => by cases h)).alloc hl4 _).grown hgrow5 (by simp; omega) (fun k hk => by cases hk; exact hl2))
    | (at_builtin; refine wpList_append_fits_any _ rfl (.tmp 44) (.tmp 45) 22 rfl w.heap.size 5 i0 1 Ybaf.underlying22 hi hz1 w3.heap.size _ (n + 1) _ rfl hown5 _ _ _ (R.map (Value.int .u8)) rfl (by simp [hR]) hao (cells_below hR hc hb5) (ints_oneCell _ _) (by omega) ?_; intro w6 hown6 hgrow6))
  have hb6 : Below w.heap.size w w6 := hb5.grown hgrow6 hb5.size (fun k hk => by cases hk; exact hl2)
  have hm6 : w6.cell? ⟨w3.heap.size, 0, none⟩ = some (.int .u8 ((m + d) % 256)) := by rw [hown6.cellAt 0 (by omega)]; rfl
  have hl6 := hb6.size
  have hF6 : F.answers w6.tape := by rw [hb6.tape]; exact hF
  clear hgrow4 hgrow5 hgrow6 hown4 hown5 hown6 hb5
  refine (check_bad F _ _ _ ((m + d) % 256) m s _ hF6 (by simp; omega) (by omega) hm6 (by rw [bne_iff_ne]; omega)).mono ?_
  clear hm6
  rintro e w7 ⟨⟨a7, rfl⟩, hb7⟩
  have hF7 : F.answers w7.tape := by rw [hb7.tape]; exact hF6
  have hb7' : Below w.heap.size w w7 := hb6.trans (hb7.mono hl6)
  go_wp2_with fail
  refine (check_empty F none 0 m s _ hF7).mono ?_
  rintro e w8 ⟨⟨a8, rfl⟩, hb8⟩
  have hF8 : F.answers w8.tape := by rw [hb8.tape]; exact hF7
  have hb8' : Below w.heap.size w w8 := hb7'.trans (hb8.mono hb7'.size)
  go_wp2_with fail
  refine (check_empty F _ _ m s _ (by exact hF8)).mono ?_
  rintro e w9 ⟨⟨a9, rfl⟩, hb9⟩
  go_wp2
  go_ret
  exact ⟨rfl, (hb8'.alloc hb8'.size _).trans (hb9.mono (by simp; have := hb8'.size; omega))⟩

set_option maxHeartbeats 1000000 in
theorem mk_zero (F : Interp) (ao : Option Addr) (n c : Nat) (R : List Int) (m : Int) (s : ByteArray) (w : World) (hF : F.answers w.tape) (hR : R.length = n) (hn : ¬ 1024 < (n : Int)) (hn' : (n : Int) ≤ 1024)
    (hao : ao = none → n = 0 ∧ c = 0) (hc : ∀ ad, ao = some ad → ∀ t, t < n → w.cell? (ad.add t) = some (.int .u8 (R.getD t 0)))
    (_hm : 0 ≤ m ∧ m ≤ 255) :
    Calls Ybaf.prog 4 #[.slice ao n c, .int .u8 m, .int .u8 0, .string s] w fun e w' => e = .returned (.bool true) ∧ Below w.heap.size w w' := by
  obtain ⟨i0, hi, hz0, hz1, hz2⟩ := info_parts info5
  go_enter Ybaf.func4, Ybaf.ntmps4
  go_wp2_with (first
    | (at_make; refine wpList_make_own _ rfl _ _ 22 rfl w.heap.size 5 i0 (.int .u8 0) 1 Ybaf.underlying22 hi hz0 hz1 _ _ _ (n + 1) rfl rfl (by omega) (by rw [hz2]; omega) (by unfold maxLen; omega) (Nat.le_refl _) ?_; intro w0 hown0 hgrow0)
    | (at_builtin; refine wpList_append_fits _ rfl (.tmp 19) (.tmp 21) 22 rfl w.heap.size 5 i0 1 Ybaf.underlying22 hi hz1 w.heap.size 0 (n + 1) _ rfl (hown0.alloc _) ⟨w0.heap.size, 0, none⟩ 1 1 [.int .u8 m] rfl rfl (by intro t u ht; match t, ht with | 0, ht => simp at ht; subst ht; simp [Addr.add]) (by intro u hu; simp at hu; subst hu; rfl) (by omega) ?_; intro w1 hown1 hgrow1; have hb1 : Below w.heap.size w w1 := (((Below.refl _ _).grown hgrow0 (Nat.le_refl _) (fun k h => by cases h)).alloc hgrow0.size _).grown hgrow1 (by have := hgrow0.size; simp; omega) (fun k hk => by cases hk; exact Nat.le_refl _))
    | (at_builtin; refine wpList_append_fits_any _ rfl (.tmp 23) (.tmp 24) 22 rfl w.heap.size 5 i0 1 Ybaf.underlying22 hi hz1 w.heap.size _ (n + 1) _ rfl hown1 _ _ _ (R.map (Value.int .u8)) rfl (by simp [hR]) hao (cells_below hR hc hb1) (ints_oneCell _ _) (by omega) ?_; intro w2 hown2 hgrow2))
  have hb2 : Below w.heap.size w w2 := hb1.grown hgrow2 hb1.size (fun k hk => by cases hk; exact Nat.le_refl _)
  have hm0 : w2.cell? ⟨w.heap.size, 0, none⟩ = some (.int .u8 m) := by rw [hown2.cellAt 0 (by omega)]; rfl
  have hl2 := hb2.size
  have hF2 : F.answers w2.tape := by rw [hb2.tape]; exact hF
  clear hgrow0 hgrow1 hgrow2 hown0 hown1 hown2 hb1
  refine (check_ok _ _ _ m m s _ (by simp; omega) (by omega) hm0 (by simp)).mono ?_
  clear hm0
  rintro e w3 ⟨rfl, rfl⟩
  go_wp2_with (first
    | (at_make; refine wpList_make_own _ rfl _ _ 22 rfl w.heap.size 5 i0 (.int .u8 0) 1 Ybaf.underlying22 hi hz0 hz1 _ _ _ (n + 1) rfl rfl (by omega) (by rw [hz2]; omega) (by unfold maxLen; omega) hl2 ?_; intro w4 hown4 hgrow4; have hl4 := Nat.le_trans hl2 hgrow4.size)
    | (at_builtin; refine wpList_append_fits _ rfl (.tmp 38) (.tmp 42) 22 rfl w.heap.size 5 i0 1 Ybaf.underlying22 hi hz1 w3.heap.size 0 (n + 1) _ rfl (hown4.alloc _) ⟨w4.heap.size, 0, none⟩ 1 1 [.int .u8 ((m + 1) % 256)] rfl rfl (by intro t u ht; match t, ht with | 0, ht => simp at ht; subst ht; simp [Addr.add]) (by intro u hu; simp at hu; subst hu; rfl) (by omega) ?_; intro w5 hown5 hgrow5; have hb5 : Below w.heap.size w w5 := ((hb2.grown hgrow4 hl2 (fun k h => by cases h)).alloc hl4 _).grown hgrow5 (by simp; omega) (fun k hk => by cases hk; exact hl2))
    | (at_builtin; refine wpList_append_fits_any _ rfl (.tmp 44) (.tmp 45) 22 rfl w.heap.size 5 i0 1 Ybaf.underlying22 hi hz1 w3.heap.size _ (n + 1) _ rfl hown5 _ _ _ (R.map (Value.int .u8)) rfl (by simp [hR]) hao (cells_below hR hc hb5) (ints_oneCell _ _) (by omega) ?_; intro w6 hown6 hgrow6))
  have hb6 : Below w.heap.size w w6 := hb5.grown hgrow6 hb5.size (fun k hk => by cases hk; exact hl2)
  have hm6 : w6.cell? ⟨w3.heap.size, 0, none⟩ = some (.int .u8 ((m + 1) % 256)) := by rw [hown6.cellAt 0 (by omega)]; rfl
  have hl6 := hb6.size
  have hF6 : F.answers w6.tape := by rw [hb6.tape]; exact hF
  clear hgrow4 hgrow5 hgrow6 hown4 hown5 hown6 hb5
  refine (check_bad F _ _ _ ((m + 1) % 256) m s _ hF6 (by simp; omega) (by omega) hm6 (by rw [bne_iff_ne]; omega)).mono ?_
  clear hm6
  rintro e w7 ⟨⟨a7, rfl⟩, hb7⟩
  have hF7 : F.answers w7.tape := by rw [hb7.tape]; exact hF6
  have hb7' : Below w.heap.size w w7 := hb6.trans (hb7.mono hl6)
  go_wp2_with fail
  refine (check_empty F none 0 m s _ hF7).mono ?_
  rintro e w8 ⟨⟨a8, rfl⟩, hb8⟩
  have hF8 : F.answers w8.tape := by rw [hb8.tape]; exact hF7
  have hb8' : Below w.heap.size w w8 := hb7'.trans (hb8.mono hb7'.size)
  go_wp2_with fail
  refine (check_empty F _ _ m s _ (by exact hF8)).mono ?_
  rintro e w9 ⟨⟨a9, rfl⟩, hb9⟩
  go_wp2
  go_ret
  exact ⟨rfl, (hb8'.alloc hb8'.size _).trans (hb9.mono (by simp; have := hb8'.size; omega))⟩

end Go.Proofs.YbulkbqmFmt
