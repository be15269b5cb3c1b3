/-
  takeCounts (function 10): what it hands back, as far as LawS0132BGuard asks.
-/
import Derived.Test.YbulkbscFmtStr
import Derived.Maps.OwnSet
namespace Go.Proofs.YbulkbscFmt
open Go.RowKit Go.Extern.Stop Go.Stop Go.Extern Go.Maps

theorem law9 : Keyed Ybaf.prog 9 := string_keyed Ybaf.underlying9
theorem made37 (x : Int) (w : World) : (Instr.makeMap 37 (some (.int .i64 x))).run Ybaf.prog w = .ok (.map (some w.heap.size)) (w.alloc (.map #[] 0)) := by kernel_rfl

/-- A cell lies in no map's block. -/
theorem cell_kept {H : Type} {w w' : World} {bm n : Nat} {D : DataW H} {k : TypeId} {R : Value → Option (DataW H × List MemPlace)} (hm : w.ownsMap Ybaf.prog k R bm n D) (hg : w.grownBy w' (some bm)) {p : Addr} {v : Value} (hc : w.cell? p = some v) : w'.heap[p.block]? = w.heap[p.block]? := by
  refine hg.block _ (World.block_lt_of_cell? w _ hc) (fun e => ?_)
  obtain ⟨es, ck, hh, _⟩ := hm
  have : p.block = bm := Option.some.inj e
  rw [← this] at hh
  simp [World.cell?, hh] at hc

theorem Dec.mapped {H : Type} {w w' : World} {db n c bm m : Nat} {ao : Option Addr} {err : Value} {D : DataW H} {k : TypeId} {R : Value → Option (DataW H × List MemPlace)} (h : Dec w db ao n c err) (hm : w.ownsMap Ybaf.prog k R bm m D) (hg : w.grownBy w' (some bm)) : Dec w' db ao n c err := by
  obtain ⟨eb, s, c2, hs, hne⟩ := h.c2
  have hb := cell_kept hm hg h.c0
  have kc : ∀ j, w'.cell? ⟨db, j, none⟩ = w.cell? ⟨db, j, none⟩ := fun j => World.cell?_of_block (w := w) (a := ⟨db, j, none⟩) hb
  exact ⟨(kc 0).trans h.c0, (kc 1).trans h.c1, ⟨eb, s, (kc 2).trans c2, (World.cell?_of_block (w := w) (a := ⟨eb, 0, none⟩) (cell_kept hm hg hs)).trans hs, hne⟩,
    (World.frozen?_of_block (w := w) (a := ⟨db, 0, none⟩) hb).trans h.f0, (World.frozen?_of_block (w := w) (a := ⟨db, 1, none⟩) hb).trans h.f1⟩
theorem Rd.mapped {H : Type} {w w' : World} {db g o c bm m : Nat} {bs : List UInt8} {D : DataW H} {k : TypeId} {R : Value → Option (DataW H × List MemPlace)} (h : Rd w db bs g o c) (hm : w.ownsMap Ybaf.prog k R bm m D) (hg : w.grownBy w' (some bm)) : Rd w' db bs g o c :=
  ⟨h.dec.mapped hm hg, h.cap, h.ne, fun j b hj => by
    have hc := h.at' j b hj
    exact (World.cell?_of_block (w := w) (a := ⟨g, o + j, none⟩) (cell_kept hm hg hc)).trans hc⟩
theorem St.mapped {H : Type} {w w' : World} {db bm m : Nat} {D : DataW H} {k : TypeId} {R : Value → Option (DataW H × List MemPlace)} (h : St w db) (hm : w.ownsMap Ybaf.prog k R bm m D) (hg : w.grownBy w' (some bm)) : St w' db := by
  rcases h with ⟨bs, g, o, c, h⟩ | ⟨ao, n, c, a, h⟩
  · exact .inl ⟨bs, g, o, c, h.mapped hm hg⟩
  · exact .inr ⟨ao, n, c, a, h.mapped hm hg⟩

abbrev MapU (w : World) (bm n : Nat) (D : DataW Unit) : Prop := w.ownsMap Ybaf.prog 9 (plainElem Ybaf.prog 30) bm n D

/-- A block that was not there stands in nobody's way. -/
theorem grown_new {w w1 w2 : World} {db bm : Nat} (h : w.grownBy w1 (some db)) (hn : w.heap.size ≤ bm) (h' : w1.grownBy w2 (some bm)) : w.grownBy w2 (some db) :=
  ⟨h'.os.trans h.os, h'.tape.trans h.tape, h'.output.trans h.output, Nat.le_trans h.size h'.size, fun k hk hr => (h'.block k (Nat.lt_of_lt_of_le hk h.size) (fun e => by have := Option.some.inj e; omega)).trans (h.block k hk hr)⟩

set_option maxHeartbeats 1000000 in
theorem counts_short (F : Interp) (db n c : Nat) (ao : Option Addr) (w : World) (hF : F.answers w.tape) (h : Dec w db ao n c .nilIface) (hn : n < 2) :
    Calls Ybaf.prog 10 #[.pointer (some ⟨db, 0, none⟩)] w fun e w' => ∃ bm, e = .returned (.map (some bm)) ∧ MapU w' bm 0 (.map []) ∧ w.grownBy w' (some db) ∧ w.heap.size ≤ bm := by
  have hmm := made37
  go_enter Ybaf.func10, Ybaf.ntmps10
  go_wp2_with fail
  refine (u16_short F db n c ao _ hF h hn).mono ?_
  rintro e w1 ⟨rfl, ⟨a, h1⟩, hg1⟩
  go_wp2_with fail
  refine (len_any db n c ao _ _ h1).mono ?_
  rintro e w2 ⟨rfl, rfl⟩
  have hq : decide ((n : Int) / 10 < 0) = false := by simp; omega
  go_wp2_with fail
  refine wp_loop_rounds 1 ?_
  rw [rounds_succ]
  go_wp2
  go_ret
  have hs := hg1.size
  exact ⟨_, rfl, World.ownsMap_made w2 _ _ _, grown_below hg1 ((Below.refl _ _).alloc (Nat.le_refl _) _), hs⟩

set_option maxHeartbeats 1000000 in
theorem counts_nil (F : Interp) (db g o c N : Nat) (b0 b1 : UInt8) (bs : List UInt8) (w : World) (hF : F.answers w.tape) (h : Rd w db (b0 :: b1 :: bs) g o c) (hN : Lib.beNat [b0, b1] = N) (hgt : (bs.length : Int) / 10 < (N : Int)) :
    Calls Ybaf.prog 10 #[.pointer (some ⟨db, 0, none⟩)] w fun e w' => e = .returned (.map none) ∧ w.grownBy w' (some db) := by
  have hmm := made37
  have hlt := be2_lt b0 b1
  have hC := u16_rd db g o c b0 b1 bs w h
  rw [hN] at hC hlt
  have hlt' : (N : Int) < 65536 := by omega
  clear h hN
  go_enter Ybaf.func10, Ybaf.ntmps10
  go_wp2_with fail
  refine hC.mono ?_
  clear hC
  rintro e w1 ⟨rfl, ⟨g1, o1, c1, h1⟩, hg1⟩
  have hF1 : F.answers w1.tape := by rw [hg1.tape]; exact hF
  go_wp2_with fail
  refine (len_any db _ c1 _ _ _ h1.dec).mono ?_
  rintro e w2 ⟨rfl, rfl⟩
  go_wp2_with fail
  refine (len_any db _ c1 _ _ _ h1.dec).mono ?_
  rintro e w3 ⟨rfl, rfl⟩
  go_wp2_with fail
  refine (failB F (N : Int) (bs.length : Int) w3.heap.size db _ c1 _ _ (by exact hF1) (h1.dec.below ((Below.refl _ _).alloc (Nat.le_refl _) _)) (by simp) (by simp)).mono ?_
  rintro e w4 ⟨rfl, _, hg4⟩
  go_wp2
  go_ret
  exact ⟨rfl, grown_trans (grown_below hg1 ((Below.refl _ _).alloc (Nat.le_refl _) _)) hg4⟩

set_option maxHeartbeats 1000000 in
set_option maxRecDepth 100000 in
theorem counts_map (F : Interp) (db g o c N : Nat) (b0 b1 : UInt8) (bs : List UInt8) (w : World) (hF : F.answers w.tape) (h : Rd w db (b0 :: b1 :: bs) g o c) (hN : Lib.beNat [b0, b1] = N) (hle : ¬ (bs.length : Int) / 10 < (N : Int)) (hlen : (bs.length : Int) ≤ 1000000000) :
    Calls Ybaf.prog 10 #[.pointer (some ⟨db, 0, none⟩)] w fun e w' => ∃ bm D, e = .returned (.map (some bm)) ∧ MapU w' bm N D ∧ w.grownBy w' (some db) ∧ w.heap.size ≤ bm := by
  have hmm := made37
  have hlt := be2_lt b0 b1
  have hC := u16_rd db g o c b0 b1 bs w h
  rw [hN] at hC hlt
  have hN9 : N ≤ 100000000 := by omega
  clear hlt
  have hdb : db < w.heap.size := World.block_lt_of_cell? w _ h.dec.c0
  clear h hN
  go_enter Ybaf.func10, Ybaf.ntmps10
  go_wp2_with fail
  refine hC.mono ?_
  clear hC
  rintro e w1 ⟨rfl, ⟨g1, o1, c1, h1⟩, hg1⟩
  have hle' : (N : Int) ≤ (bs.length : Int) / 10 := by omega
  clear hle
  go_wp2_with fail
  refine (len_any db _ c1 _ _ _ h1.dec).mono ?_
  rintro e w2 ⟨rfl, rfl⟩
  go_wp2_with fail
  have HS : Hid (St (w2.alloc (.map #[] 0)) db) := St.below (.inl ⟨_, _, _, _, h1⟩) ((Below.refl _ _).alloc (Nat.le_refl _) _)
  have HG : Hid (w.grownBy (w2.alloc (.map #[] 0)) (some db)) := grown_below hg1 ((Below.refl _ _).alloc (Nat.le_refl _) _)
  have hbm : w.heap.size ≤ w2.heap.size := hg1.size
  clear h1 hg1
  go_loopw [25] (fun idx wr => ∃ (i : Nat) (D : DataW Unit), i ≤ N ∧ idx = .int .i64 (i : Int) ∧ St wr db ∧ MapU wr w2.heap.size i D ∧ w.grownBy wr (some db)) (fun idx _ => N - (intOf idx).toNat)
  case atStart => exact ⟨0, .map [], Nat.zero_le _, rfl, HS.out, World.ownsMap_made w2 _ _ _, HG.out⟩
  case round =>
    obtain ⟨i, D, hi, rfl, hS, hM, hG⟩ := hrel
    clear HS HG
    have HS : Hid (St wr db) := hS
    have HM : Hid (MapU wr w2.heap.size i D) := hM
    have HG : Hid (w.grownBy wr (some db)) := hG
    clear hS hM hG
    by_cases hlt2 : i < N
    · have hF1 : F.answers wr.tape := by rw [HG.out.tape]; exact hF
      go_wp2_with fail
      refine (str_weak F db _ hF1 HS.out).mono ?_
      rintro e w3 ⟨s, rfl, hs, hS3, hg3⟩
      have HM3 : Hid (MapU w3 w2.heap.size i D) := HM.out.kept hg3 (fun e => by have := Option.some.inj e; omega)
      have hF3 : F.answers w3.tape := by rw [hg3.tape]; exact hF1
      go_wp2_with fail
      refine (u64_weak F db _ hF3 hS3).mono ?_
      rintro e w4 ⟨x, rfl, hx, hS4, hg4⟩
      have hM4 : MapU w4 w2.heap.size i D := HM3.out.kept hg4 (fun e => by have := Option.some.inj e; omega)
      have hkey := WideMaps.keyOf_string_mk Ybaf.underlying9 hs
      go_wp2_with (at_mapUpdate; refine wpList_mapUpdate_own _ rfl _ _ _ 37 rfl 9 30 law9 Ybaf.underlying37 _ w2.heap.size i D rfl hM4 (by unfold maxLen; omega) _ _ _ rfl rfl hkey _ [] (plainElem_int Ybaf.underlying30 hx) ?_; intro w5 hM5 hg5)
      exact ⟨⟨i + 1, _, by omega, by go_num, hS4.mapped hM4 hg5, hM5, grown_new (grown_trans (grown_trans HG.out hg3) hg4) hbm hg5⟩, by simp [intOf]; omega⟩
    · go_wp2
      go_ret
      have e : i = N := by omega
      subst e
      exact ⟨_, D, rfl, HM.out, HG.out, hbm⟩
end Go.Proofs.YbulkbscFmt
