/-
  takeCounts (function 10) on a well-formed field: the map, and what is left unread.
-/
import Derived.Test.YbulkbscFmtApp
namespace Go.Proofs.YbulkbscFmt
open Go.RowKit Go.Extern.Stop Go.Stop Go.Extern Go.Maps

/-- m entries from i on, then the tail. -/
def entF (K : Nat → ByteArray) (V : Nat → Nat) (tail : List UInt8) : Nat → Nat → List UInt8
  | 0, _ => tail
  | m + 1, i => Lib.beBytes 2 (K i).size ++ ((K i).data.toList ++ (Lib.beBytes 8 (V i) ++ entF K V tail m (i + 1)))

/-- The map behind m entries. -/
def mapF (K : Nat → ByteArray) (V : Nat → Nat) : Nat → DataW Unit
  | 0 => .map []
  | m + 1 => (mapF K V m).put (.string (K m).data.toList) (.lit (.int .u64 (V m)))

theorem entF_len (K : Nat → ByteArray) (V : Nat → Nat) (tail : List UInt8) : ∀ m i, (entF K V tail m i).length = (entF K V [] m i).length + tail.length ∧ 10 * m ≤ (entF K V [] m i).length
  | 0, _ => by simp [entF]
  | m + 1, i => by
    have := entF_len K V tail m (i + 1)
    simp only [entF, List.length_append, Lib.beBytes_length]
    omega
theorem entF_le (K : Nat → ByteArray) (V : Nat → Nat) (N : Nat) (hK : ∀ i, i < N → (K i).size ≤ 1024) : ∀ m i, m + i ≤ N → (entF K V [] m i).length ≤ 1034 * m
  | 0, _, _ => by simp [entF]
  | m + 1, i, h => by
    have := entF_le K V N hK m (i + 1) (by omega)
    have h2 := hK i (by omega)
    have e : (K i).data.toList.length = (K i).size := Array.length_toList
    simp only [entF, List.length_append, Lib.beBytes_length, e]
    omega

theorem two_cons (v : Nat) (h : v < 65536) : ∃ b0 b1, Lib.beBytes 2 v = [b0, b1] ∧ Lib.beNat [b0, b1] = v := by
  have hb := Lib.beNat_beBytes 2 v (by simpa using h)
  have hl := Lib.beBytes_length 2 v
  match hx : Lib.beBytes 2 v, hl with
  | [b0, b1], _ => exact ⟨b0, b1, rfl, by rw [← hx]; exact hb⟩

theorem u16_back (db v : Nat) (rest : List UInt8) (w : World) (h : RdE w db (Lib.beBytes 2 v ++ rest)) (hv : v < 65536) :
    Calls Ybaf.prog 13 #[.pointer (some ⟨db, 0, none⟩)] w fun e w' => e = .returned (.int .u16 v) ∧ RdE w' db rest ∧ w.grownBy w' (some db) := by
  obtain ⟨b0, b1, e0, e1⟩ := two_cons v hv
  obtain ⟨g, o, c, h⟩ := h
  rw [e0] at h
  have := u16_rd db g o c b0 b1 rest w h
  rw [e1] at this
  exact this

theorem str_back (db : Nat) (kb : ByteArray) (rest : List UInt8) (w : World) (h : RdE w db (Lib.beBytes 2 kb.size ++ (kb.data.toList ++ rest))) (hk : kb.size ≤ 1024) :
    Calls Ybaf.prog 15 #[.pointer (some ⟨db, 0, none⟩)] w fun e w' => e = .returned (.string kb) ∧ RdE w' db rest ∧ w.grownBy w' (some db) := by
  obtain ⟨b0, b1, e0, e1⟩ := two_cons kb.size (by omega)
  obtain ⟨g, o, c, h⟩ := h
  rw [e0] at h
  have hl : kb.data.toList.length = kb.size := Array.length_toList
  have := str_rd db g o c kb.size b0 b1 (kb.data.toList ++ rest) w h e1 (by rw [List.length_append, hl]; omega)
  rw [List.take_left' hl, List.drop_left' hl] at this
  exact this

theorem u64_back (db v : Nat) (rest : List UInt8) (w : World) (h : RdE w db (Lib.beBytes 8 v ++ rest)) (hv : v < 18446744073709551616) :
    Calls Ybaf.prog 16 #[.pointer (some ⟨db, 0, none⟩)] w fun e w' => e = .returned (.int .u64 v) ∧ RdE w' db rest ∧ w.grownBy w' (some db) := by
  have hb := Lib.beNat_beBytes 8 v (by simpa using hv)
  have hl := Lib.beBytes_length 8 v
  obtain ⟨b0, b1, b2, b3, b4, b5, b6, b7, r, hx⟩ := eight (l := Lib.beBytes 8 v) (by omega)
  have hr : r = [] := by rw [hx] at hl; simpa using hl
  subst hr
  obtain ⟨g, o, c, h⟩ := h
  rw [hx] at h hb
  have := u64_rd db g o c b0 b1 b2 b3 b4 b5 b6 b7 rest w h
  rw [hb] at this
  exact this

theorem RdE.mapped {H : Type} {w w' : World} {db bm m : Nat} {bs : List UInt8} {D : DataW H} {k : TypeId} {R : Value → Option (DataW H × List MemPlace)} (h : RdE w db bs) (hm : w.ownsMap Ybaf.prog k R bm m D) (hg : w.grownBy w' (some bm)) : RdE w' db bs := by
  obtain ⟨g, o, c, h⟩ := h
  exact ⟨g, o, c, h.mapped hm hg⟩

set_option maxHeartbeats 1000000 in
set_option maxRecDepth 100000 in
theorem counts_exact (db N : Nat) (K : Nat → ByteArray) (V : Nat → Nat) (tail : List UInt8) (w : World) (h : RdE w db (Lib.beBytes 2 N ++ entF K V tail N 0)) (hN : N ≤ 1024) (hK : ∀ i, i < N → (K i).size ≤ 1024) (hV : ∀ i, i < N → V i < 18446744073709551616) (ht : tail.length ≤ 1024) :
    Calls Ybaf.prog 10 #[.pointer (some ⟨db, 0, none⟩)] w fun e w' => ∃ bm, e = .returned (.map (some bm)) ∧ MapU w' bm N (mapF K V N) ∧ RdE w' db tail ∧ w.grownBy w' (some db) ∧ w.heap.size ≤ bm := by
  have hmm := made37
  have hC := u16_back db N _ w h (by omega)
  have hL1 := entF_len K V tail N 0
  have hL2 := entF_le K V N hK N 0 (by omega)
  obtain ⟨L, hL⟩ : ∃ L, (entF K V tail N 0).length = L := ⟨_, rfl⟩
  have hlen : (L : Int) ≤ 1000000000 := by omega
  have hle' : (N : Int) ≤ (L : Int) / 10 := by omega
  have hNN : (N : Int) ≤ 1024 := by omega
  have HL : Hid ((entF K V tail N 0).length = L) := hL
  have hdb : db < w.heap.size := by
    obtain ⟨g, o, c, h⟩ := h
    exact World.block_lt_of_cell? w _ h.dec.c0
  clear h hL1 hL2 hL
  go_enter Ybaf.func10, Ybaf.ntmps10
  go_wp2_with fail
  refine hC.mono ?_
  clear hC
  rintro e w1 ⟨rfl, ⟨g1, o1, c1, h1⟩, hg1⟩
  have hlen1 := len_any db _ c1 _ _ w1 h1.dec
  rw [HL.out] at hlen1
  go_wp2_with fail
  refine hlen1.mono ?_
  rintro e w2 ⟨rfl, rfl⟩
  clear hlen1
  go_wp2_with fail
  have HS : Hid (RdE (w2.alloc (.map #[] 0)) db (entF K V tail (N - 0) 0)) := ⟨_, _, _, h1.below ((Below.refl _ _).alloc (Nat.le_refl _) _)⟩
  have HG : Hid (w.grownBy (w2.alloc (.map #[] 0)) (some db)) := grown_below hg1 ((Below.refl _ _).alloc (Nat.le_refl _) _)
  have hbm : w.heap.size ≤ w2.heap.size := hg1.size
  clear h1 hg1
  go_loopw [25] (fun idx wr => ∃ (i : Nat), i ≤ N ∧ idx = .int .i64 (i : Int) ∧ RdE wr db (entF K V tail (N - i) i) ∧ MapU wr w2.heap.size i (mapF K V i) ∧ w.grownBy wr (some db)) (fun idx _ => N - (intOf idx).toNat)
  case atStart => exact ⟨0, Nat.zero_le _, rfl, HS.out, World.ownsMap_made w2 _ _ _, HG.out⟩
  case round =>
    obtain ⟨i, hi, rfl, hS, hM, hG⟩ := hrel
    clear HS HG
    have HM : Hid (MapU wr w2.heap.size i (mapF K V i)) := hM
    have HG : Hid (w.grownBy wr (some db)) := hG
    clear hM hG
    by_cases hlt2 : i < N
    · obtain ⟨m, hm⟩ : ∃ m, N - i = m + 1 := ⟨N - i - 1, by omega⟩
      have hm' : N - (i + 1) = m := by omega
      rw [hm] at hS
      have HS : Hid (RdE wr db (entF K V tail (m + 1) i)) := hS
      have HK : Hid ((K i).size ≤ 1024) := hK i hlt2
      clear hS
      go_wp2_with fail
      refine (str_back db (K i) _ _ HS.out HK.out).mono ?_
      rintro e w3 ⟨rfl, hS3, hg3⟩
      have HS3 : Hid (RdE w3 db (Lib.beBytes 8 (V i) ++ entF K V tail m (i + 1))) := hS3
      have HM3 : Hid (MapU w3 w2.heap.size i (mapF K V i)) := HM.out.kept hg3 (fun e => by have := Option.some.inj e; omega)
      clear hS3
      go_wp2_with fail
      refine (u64_back db (V i) _ _ HS3.out (hV i hlt2)).mono ?_
      rintro e w4 ⟨rfl, hS4, hg4⟩
      have hM4 : MapU w4 w2.heap.size i (mapF K V i) := HM3.out.kept hg4 (fun e => by have := Option.some.inj e; omega)
      have hkey := WideMaps.keyOf_string_mk (s := K i) Ybaf.underlying9 (by have := HK.out; unfold maxLen; omega)
      have hwf : (Lit.int .u64 (V i : Int)).wf = true := WalkArith.wf_u64 (by have := hV i hlt2; omega)
      have HS4 : Hid (RdE w4 db (entF K V tail m (i + 1))) := hS4
      clear hS4 HS3 HS
      go_wp2_with (at_mapUpdate; refine wpList_mapUpdate_own _ rfl _ _ _ 37 rfl 9 30 law9 Ybaf.underlying37 _ w2.heap.size i (mapF K V i) rfl hM4 (by unfold maxLen; omega) _ _ _ rfl rfl hkey _ [] (plainElem_int Ybaf.underlying30 hwf) ?_; intro w5 hM5 hg5)
      exact ⟨⟨i + 1, by omega, by go_num, by rw [hm']; exact HS4.out.mapped hM4 hg5, hM5, grown_new (grown_trans (grown_trans HG.out hg3) hg4) hbm hg5⟩, by simp [intOf]; omega⟩
    · have e : i = N := by omega
      subst e
      rw [Nat.sub_self] at hS
      have HS : Hid (RdE wr db tail) := hS
      clear hS
      go_wp2
      go_ret
      exact ⟨_, rfl, HM.out, HS.out, HG.out, hbm⟩
end Go.Proofs.YbulkbscFmt
