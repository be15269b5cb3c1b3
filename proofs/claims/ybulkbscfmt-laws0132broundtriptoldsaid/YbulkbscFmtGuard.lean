/-
  THE WALK OF LawS0132BGuard (function 4).
-/
import Derived.Test.YbulkbscFmtCounts
import Derived.Laws.AppendOwnNone
namespace Go.Proofs.YbulkbscFmt
open Go.RowKit Go.Extern.Stop Go.Stop Go.Extern Go.Maps

set_option maxHeartbeats 400000 in
theorem new_err (s : ByteArray) (w : World) : Calls Ybaf.prog 9 #[.string s] w fun e w' => e = .returned (.iface 47 (.pointer (some ⟨w.heap.size, 0, none⟩))) ∧ w' = w.alloc (.cells #[.string s] 49) := by
  go_enter Ybaf.func9, Ybaf.ntmps9
  go_wp2
  go_ret
  exact ⟨rfl, rfl⟩

set_option maxHeartbeats 400000 in
theorem new_dec (ao : Option Addr) (n c : Nat) (a : Addr) (w : World) : Calls Ybaf.prog 8 #[.slice ao n c, .iface 47 (.pointer (some a))] w fun e w' => e = .returned (.pointer (some ⟨w.heap.size, 0, none⟩)) ∧ w' = w.alloc (.cells #[.slice ao n c, .nilIface, .iface 47 (.pointer (some a))] 46) := by
  go_enter Ybaf.func8, Ybaf.ntmps8
  go_wp2
  go_ret
  exact ⟨rfl, rfl⟩

/-- The new Decoder over the new sentinel. -/
theorem dec_new (ao : Option Addr) (n c : Nat) (s : ByteArray) (w : World) :
    Dec ((w.alloc (.cells #[.string s] 49)).alloc (.cells #[.slice ao n c, .nilIface, .iface 47 (.pointer (some ⟨w.heap.size, 0, none⟩))] 46)) (w.heap.size + 1) ao n c .nilIface := by
  have e : (w.alloc (.cells #[.string s] 49)).heap.size = w.heap.size + 1 := by simp
  rw [← e]
  refine ⟨by simp, by simp, ⟨w.heap.size, s, by simp, ?_, by simp⟩, by simp, by simp⟩
  exact cell?_alloc_old _ (by simp)

set_option maxHeartbeats 400000 in
theorem guard_big (x : Option Addr) (n c : Nat) (w : World) (h : 1024 < (n : Int)) :
    Calls Ybaf.prog 4 #[.slice x n c] w fun e w' => e = .returned (.bool true) ∧ Below w.heap.size w w' := by
  go_enter Ybaf.func4, Ybaf.ntmps4
  go_wp2
  go_ret
  exact ⟨rfl, Below.refl _ _⟩

theorem bytes_one (l : List UInt8) : ∀ u ∈ l.map (fun b => Value.int .u8 b.toNat), u.oneCell' = true := by
  intro u hu
  obtain ⟨_, _, rfl⟩ := List.mem_map.1 hu
  rfl

set_option maxHeartbeats 1000000 in
theorem guard_none (F : Interp) (w : World) (hF : F.answers w.tape) :
    Calls Ybaf.prog 4 #[.slice none 0 0] w fun e w' => e = .returned (.bool true) ∧ Below w.heap.size w w' := by
  have q1 := fun (w : World) (r : Option Nat) => run_neq_map_nil (P := Ybaf.prog) w 37 9 30 r Ybaf.underlying37
  go_enter Ybaf.func4, Ybaf.ntmps4
  go_wp2_with fail
  refine (new_err _ _).mono ?_
  rintro e w1 ⟨rfl, rfl⟩
  go_wp2_with fail
  refine (new_dec none 0 0 _ _).mono ?_
  rintro e w1 ⟨rfl, rfl⟩
  have hd := dec_new none 0 0 ⟨#[109, 97, 108, 102, 111, 114, 109, 101, 100]⟩ w
  go_wp2_with fail
  refine (counts_short F _ 0 0 none _ (by exact hF) (by simpa using hd) (by omega)).mono ?_
  rintro e w2 ⟨bm, rfl, hM, hg, hbm⟩
  have hlen := hM.len Ybaf.underlying37
  simp only [show Maps.size (.map [] : DataW Unit) = 0 from rfl] at hlen
  have hB : Below w.heap.size w w2 := (((Below.refl _ w).alloc (Nat.le_refl _) _).alloc (by simp) _).grown hg (by simp; omega) (fun k hk => by cases hk; simp)
  clear hM hg hbm hd
  go_wp2
  go_ret
  exact ⟨rfl, hB⟩

set_option maxHeartbeats 1000000 in
theorem guard_small (F : Interp) (ad : Addr) (n c : Nat) (bs : List UInt8) (w : World) (hF : F.answers w.tape) (hn : (n : Int) < 2) (hl : bs.length = n)
    (hc : ∀ (t : Nat) (u : Value), (bs.map fun b => Value.int .u8 b.toNat)[t]? = some u → w.cell? (ad.add t) = some u) :
    Calls Ybaf.prog 4 #[.slice (some ad) n c] w fun e w' => e = .returned (.bool true) ∧ Below w.heap.size w w' := by
  obtain ⟨i0, hi, hz0, hz1, hz2⟩ := info_parts info5
  have q1 := fun (w : World) (r : Option Nat) => run_neq_map_nil (P := Ybaf.prog) w 37 9 30 r Ybaf.underlying37
  go_enter Ybaf.func4, Ybaf.ntmps4
  go_wp2_with (at_builtin; refine wpList_append_own _ rfl _ _ 24 rfl w.heap.size 5 i0 (.int .u8 0) 1 1 Ybaf.underlying24 hi hz0 hz1 hz2 rfl (by decide) _ 0 [] rfl (World.ownsRow_nil _ _ _ _) ad n c (bs.map fun b => Value.int .u8 b.toNat) rfl (by simp [hl]) hc (bytes_one _) (by unfold maxLen; omega) (by omega) (Nat.le_refl _) ?_)
  intro v1 w1 hown1 hgrow1 hnil
  obtain ⟨ao, c1, hv⟩ : ∃ ao c1, v1 = .slice ao n c1 := by
    rcases hown1.2 with ⟨h0, h1⟩ | ⟨g', c', _, hv, _⟩
    · have e0 : n = 0 := by omega
      exact ⟨none, 0, by rw [h0, e0]⟩
    · exact ⟨_, c', hv⟩
  have hb1 : Below w.heap.size w w1 := (Below.refl _ w).grown hgrow1 (Nat.le_refl _) (fun k hk => by cases hk)
  have hF1 : F.answers w1.tape := by rw [hb1.tape]; exact hF
  have hs1 := hb1.size
  clear hown1 hgrow1 hnil hc
  rw [hv]
  go_wp2_with fail
  refine (new_err _ _).mono ?_
  rintro e w2 ⟨rfl, rfl⟩
  go_wp2_with fail
  refine (new_dec ao n c1 _ _).mono ?_
  rintro e w2 ⟨rfl, rfl⟩
  have hd := dec_new ao n c1 ⟨#[109, 97, 108, 102, 111, 114, 109, 101, 100]⟩ w1
  go_wp2_with fail
  refine (counts_short F _ n c1 ao _ (by exact hF1) (by simpa using hd) (by omega)).mono ?_
  rintro e w2 ⟨bm, rfl, hM, hg, hbm⟩
  have hlen := hM.len Ybaf.underlying37
  simp only [show Maps.size (.map [] : DataW Unit) = 0 from rfl] at hlen
  have hB : Below w.heap.size w w2 := ((hb1.alloc hs1 _).alloc (by simp; omega) _).grown hg (by simp; omega) (fun k hk => by cases hk; exact Nat.le_succ_of_le hs1)
  clear hM hg hbm hd
  go_wp2
  go_ret
  exact ⟨rfl, hB⟩

/-- The copy, read. -/
theorem rd_new {w1 : World} {B n c1 : Nat} {ao : Option Addr} {bs : List UInt8} {s : ByteArray} (hown : w1.ownsRow B 5 1 (.slice ao n c1) n (bs.map fun b => Value.int .u8 b.toNat)) (hl : bs.length = n) (hn : 0 < n) :
    ∃ g o c, Rd ((w1.alloc (.cells #[.string s] 49)).alloc (.cells #[.slice ao n c1, .nilIface, .iface 47 (.pointer (some ⟨w1.heap.size, 0, none⟩))] 46)) (w1.heap.size + 1) bs g o c := by
  rcases hown.2 with ⟨_, h0⟩ | ⟨g, cap, cur, hv, hB, hh, hnc, hcm, hcs, htk⟩
  · omega
  · simp at hv
    obtain ⟨rfl, rfl⟩ := hv
    have hglt : g < w1.heap.size := (Array.getElem?_eq_some_iff.1 hh).1
    refine ⟨g, 0, c1, ⟨by rw [hl]; exact dec_new _ _ _ s w1, by omega, by omega, fun j b hj => ?_⟩⟩
    have hx := hown.cellAt j (by have := (List.getElem?_eq_some_iff.1 hj).1; omega)
    rw [List.getElem?_map, hj] at hx
    rw [Nat.zero_add]
    exact cell?_alloc_old _ (cell?_alloc_old _ hx)

theorem undrewB {w w' : World} (h : Below w.drew.heap.size w.drew w') : Below w.heap.size w w' := ⟨h.os, h.tape, h.output, h.size, h.block⟩
theorem map_below {w w' : World} {bm n : Nat} {D : DataW Unit} (h : MapU w bm n D) (hb : Below w.heap.size w w') : MapU w' bm n D := by
  have hlt := h.lt
  obtain ⟨es, ck, hh, r⟩ := h
  exact ⟨es, ck, (hb.block bm hlt).trans hh, r⟩

set_option maxHeartbeats 1000000 in
theorem guard_main (F : Interp) (ab off n c N : Nat) (b0 b1 : UInt8) (bs : List UInt8) (w : World) (hF : F.answers w.tape) (hn : (n : Int) ≤ 1024) (hl : (b0 :: b1 :: bs).length = n) (hcap : n ≤ c) (hN : Lib.beNat [b0, b1] = N)
    (hc : ∀ (t : Nat) (u : Value), ((b0 :: b1 :: bs).map fun b => Value.int .u8 b.toNat)[t]? = some u → w.cell? ((⟨ab, off, none⟩ : Addr).add t) = some u) :
    Calls Ybaf.prog 4 #[.slice (some ⟨ab, off, none⟩) n c] w fun e w' => e = .returned (.bool true) ∧ Below w.heap.size w w' := by
  obtain ⟨i0, hi, hz0, hz1, hz2⟩ := info_parts info5
  have q1 := fun (w : World) (r : Option Nat) => run_neq_map_nil (P := Ybaf.prog) w 37 9 30 r Ybaf.underlying37
  have q2 := fun (w : World) (r : Option Nat) => run_eql_map_nil (P := Ybaf.prog) w 37 9 30 r Ybaf.underlying37
  have hl' : bs.length + 2 = n := by simpa using hl
  have hn2 : ¬ (n : Int) < 2 := by omega
  have a0 : w.cell? ⟨ab, off, none⟩ = some (.int .u8 b0.toNat) := by have := hc 0 _ rfl; simpa [Addr.add] using this
  have a1 : w.cell? ⟨ab, off + 1, none⟩ = some (.int .u8 b1.toNat) := by have := hc 1 _ rfl; simpa [Addr.add] using this
  have hab : ab < w.heap.size := World.block_lt_of_cell? w _ a0
  have hcap2 : (2 : Int) ≤ c := by omega
  go_enter Ybaf.func4, Ybaf.ntmps4
  go_wp2_with (at_builtin; refine wpList_append_own _ rfl _ _ 24 rfl w.heap.size 5 i0 (.int .u8 0) 1 1 Ybaf.underlying24 hi hz0 hz1 hz2 rfl (by decide) _ 0 [] rfl (World.ownsRow_nil _ _ _ _) ⟨ab, off, none⟩ n c ((b0 :: b1 :: bs).map fun b => Value.int .u8 b.toNat) rfl (by simpa using hl) hc (bytes_one _) (by unfold maxLen; omega) (by omega) (Nat.le_refl _) ?_)
  intro v1 w1 hown1 hgrow1 hnil
  have hown1 : w1.ownsRow w.heap.size 5 1 v1 n ((b0 :: b1 :: bs).map fun b => Value.int .u8 b.toNat) := hown1
  obtain ⟨ao, c1, hv⟩ : ∃ ao c1, v1 = .slice ao n c1 := by
    rcases hown1.2 with ⟨h0, h1⟩ | ⟨g', c', _, hv, _⟩
    · omega
    · exact ⟨_, c', hv⟩
  have hb1 : Below w.heap.size w w1 := (Below.refl _ w).grown hgrow1 (Nat.le_refl _) (fun k hk => by cases hk)
  have hF1 : F.answers w1.tape := by rw [hb1.tape]; exact hF
  have hs1 := hb1.size
  rw [hv] at hown1
  obtain ⟨g, o, c2, hR⟩ := rd_new (s := ⟨#[109, 97, 108, 102, 111, 114, 109, 101, 100]⟩) hown1 hl (by omega)
  have HR := (show Hid (Rd ((w1.alloc (.cells #[.string ⟨#[109, 97, 108, 102, 111, 114, 109, 101, 100]⟩] 49)).alloc (.cells #[.slice ao n c1, .nilIface, .iface 47 (.pointer (some ⟨w1.heap.size, 0, none⟩))] 46)) (w1.heap.size + 1) (b0 :: b1 :: bs) g o c2) from hR)
  have HN : Hid (Lib.beNat [b0, b1] = N) := hN
  clear hown1 hgrow1 hnil hc hR hN hl
  rw [hv]
  go_wp2_with fail
  refine (new_err _ _).mono ?_
  rintro e w2 ⟨rfl, rfl⟩
  go_wp2_with fail
  refine (new_dec ao n c1 _ _).mono ?_
  rintro e w2 ⟨rfl, rfl⟩
  go_wp2_with fail
  have hnl : ((n : Int) - 2) / 10 = (bs.length : Int) / 10 := by omega
  have HL : Hid (((n : Int) - 2) / 10 = (bs.length : Int) / 10) := hnl
  clear hnl
  by_cases hgt : (bs.length : Int) / 10 < (N : Int)
  · refine (counts_nil F _ g o c2 N b0 b1 bs _ (by exact hF1) HR.out HN.out hgt).mono ?_
    rintro e w2 ⟨rfl, hg⟩
    have hB : Below w.heap.size w w2 := ((hb1.alloc hs1 _).alloc (by simp; omega) _).grown hg (by simp; omega) (fun k hk => by cases hk; exact Nat.le_succ_of_le hs1)
    have d0 : w2.drew.cell? ⟨ab, off, none⟩ = some (.int .u8 b0.toNat) := (hB.cell (p := ⟨ab, off, none⟩) hab).trans a0
    have d1 : w2.drew.cell? ⟨ab, off + 1, none⟩ = some (.int .u8 b1.toNat) := (hB.cell (p := ⟨ab, off + 1, none⟩) hab).trans a1
    have hP := be16 ab off 2 c b0 b1 w2.drew (by omega) d0 d1
    rw [HN.out] at hP
    have hgt2 : ((n : Int) - 2) / 10 < (N : Int) := by rw [HL.out]; exact hgt
    have hNb : (N : Int) ≤ 1000000 := by have := be2_lt b0 b1; rw [HN.out] at this; omega
    clear hg HR d0 d1 hgt
    go_wp2_with fail
    go_region_with (go_at_call 12; refine hP.mono ?_; rintro e w3 ⟨rfl, hb3⟩)
    all_goals
      go_wp2
      go_ret
      exact ⟨rfl, hB.trans ((undrewB hb3).mono hB.size)⟩
  · refine (counts_map F _ g o c2 N b0 b1 bs _ (by exact hF1) HR.out HN.out hgt (by omega)).mono ?_
    rintro e w2 ⟨bm, D, rfl, hM, hg, hbm⟩
    have hB : Below w.heap.size w w2 := ((hb1.alloc hs1 _).alloc (by simp; omega) _).grown hg (by simp; omega) (fun k hk => by cases hk; exact Nat.le_succ_of_le hs1)
    have d0 : w2.drew.cell? ⟨ab, off, none⟩ = some (.int .u8 b0.toNat) := (hB.cell (p := ⟨ab, off, none⟩) hab).trans a0
    have d1 : w2.drew.cell? ⟨ab, off + 1, none⟩ = some (.int .u8 b1.toNat) := (hB.cell (p := ⟨ab, off + 1, none⟩) hab).trans a1
    have hP := be16 ab off 2 c b0 b1 w2.drew (by omega) d0 d1
    rw [HN.out] at hP
    have hgt2 : ¬ ((n : Int) - 2) / 10 < (N : Int) := by rw [HL.out]; exact hgt
    have hsz : (Maps.size D : Int) ≤ (N : Int) := by have := hM.size_le; omega
    have HM : Hid (MapU w2 bm N D) := hM
    clear hM hg HR d0 d1 hgt hbm
    go_wp2_with fail
    go_region_with (go_at_call 12; refine hP.mono ?_; rintro e w3 ⟨rfl, hb3⟩)
    all_goals
      have hlen := (map_below HM.out (undrewB hb3)).len Ybaf.underlying37
      go_wp2
      go_ret
      exact ⟨rfl, hB.trans ((undrewB hb3).mono hB.size)⟩
end Go.Proofs.YbulkbscFmt
