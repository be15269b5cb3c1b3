/-
  (*Decoder).Take (function 17) and Len (11).
-/
import Derived.Test.YbulkbscFmtFail
namespace Go.Proofs.YbulkbscFmt
open Go.RowKit Go.Extern.Stop Go.Stop Go.Extern

set_option maxHeartbeats 400000 in
theorem len_any (db n c : Nat) (ao : Option Addr) (err : Value) (w : World) (h : Dec w db ao n c err) :
    Calls Ybaf.prog 11 #[.pointer (some ⟨db, 0, none⟩)] w fun e w' => e = .returned (.int .i64 n) ∧ w' = w := by
  have c0 := h.c0
  go_enter Ybaf.func11, Ybaf.ntmps11
  go_wp2
  go_ret
  exact ⟨rfl, rfl⟩

set_option maxHeartbeats 400000 in
theorem take_err (db n c : Nat) (ao : Option Addr) (a : Addr) (k : Int) (w : World) (h : Dec w db ao n c (.iface 60 (.pointer (some a)))) :
    Calls Ybaf.prog 17 #[.pointer (some ⟨db, 0, none⟩), .int .i64 k] w fun e w' => e = .returned (.slice none 0 0) ∧ w' = w := by
  have c1 := h.c1
  go_enter Ybaf.func17, Ybaf.ntmps17
  go_wp2
  go_ret
  exact ⟨rfl, rfl⟩

set_option maxHeartbeats 400000 in
theorem take_short (F : Interp) (db n c : Nat) (ao : Option Addr) (k : Int) (w : World) (hF : F.answers w.tape) (h : Dec w db ao n c .nilIface) (hk : (n : Int) < k) :
    Calls Ybaf.prog 17 #[.pointer (some ⟨db, 0, none⟩), .int .i64 k] w fun e w' => e = .returned (.slice none 0 0) ∧ (∃ a, Dec w' db ao n c (.iface 60 (.pointer (some a)))) ∧ w.grownBy w' (some db) := by
  have c1 := h.c1
  have c0 := h.c0
  go_enter Ybaf.func17, Ybaf.ntmps17
  go_wp2_with fail
  refine (failA F db n c ao _ hF h).mono ?_
  rintro e w1 ⟨rfl, h1, hg⟩
  go_wp2
  go_ret
  exact ⟨rfl, h1, hg⟩

/-- What is left behind k bytes. -/
def offAt (o c k : Nat) : Nat := if c = k then o else o + k

set_option maxHeartbeats 400000 in
theorem take_ok (db n c g o k : Nat) (w : World) (h : Dec w db (some ⟨g, o, none⟩) n c .nilIface) (hk : (k : Int) ≤ n) (hnc : (n : Int) ≤ c) :
    Calls Ybaf.prog 17 #[.pointer (some ⟨db, 0, none⟩), .int .i64 k] w fun e w' => e = .returned (.slice (some ⟨g, o, none⟩) k c) ∧ w' = w.setCell ⟨db, 0, none⟩ (.slice (some ⟨g, offAt o c k, none⟩) (n - k) (c - k)) := by
  have c1 := h.c1
  have c0 := h.c0
  have f0 := h.f0
  by_cases hck : c = k
  · subst hck
    go_enter Ybaf.func17, Ybaf.ntmps17
    go_wp2
    go_ret
    exact ⟨rfl, by simp [offAt]⟩
  · go_enter Ybaf.func17, Ybaf.ntmps17
    go_wp2
    go_ret
    exact ⟨rfl, by simp [offAt, hck]⟩

/-- The Decoder is well and has the bytes bs left. -/
structure Rd (w : World) (db : Nat) (bs : List UInt8) (g o c : Nat) : Prop where
  dec : Dec w db (some ⟨g, o, none⟩) bs.length c .nilIface
  cap : bs.length ≤ c
  ne : g ≠ db
  at' : ∀ (j : Nat) (b : UInt8), bs[j]? = some b → w.cell? ⟨g, o + j, none⟩ = some (.int .u8 b.toNat)

def RdE (w : World) (db : Nat) (bs : List UInt8) : Prop := ∃ g o c, Rd w db bs g o c
def Er (w : World) (db : Nat) : Prop := ∃ ao n c a, Dec w db ao n c (.iface 60 (.pointer (some a)))

/-- What another world keeps. -/
theorem Dec.kept {w w' : World} {db n c : Nat} {ao : Option Addr} {err : Value} (h : Dec w db ao n c err) (hb : w'.heap[db]? = w.heap[db]?) (hk : ∀ k, k < w.heap.size → k ≠ db → w'.heap[k]? = w.heap[k]?) : Dec w' db ao n c err := by
  obtain ⟨eb, s, c2, hs, hne⟩ := h.c2
  have kc : ∀ j, w'.cell? ⟨db, j, none⟩ = w.cell? ⟨db, j, none⟩ := fun j => World.cell?_of_block (w := w) (a := ⟨db, j, none⟩) hb
  exact ⟨(kc 0).trans h.c0, (kc 1).trans h.c1, ⟨eb, s, (kc 2).trans c2, (World.cell?_of_block (w := w) (a := ⟨eb, 0, none⟩) (hk eb (World.block_lt_of_cell? w _ hs) hne)).trans hs, hne⟩,
    (World.frozen?_of_block (w := w) (a := ⟨db, 0, none⟩) hb).trans h.f0, (World.frozen?_of_block (w := w) (a := ⟨db, 1, none⟩) hb).trans h.f1⟩
theorem Dec.below {w w' : World} {db n c : Nat} {ao : Option Addr} {err : Value} (h : Dec w db ao n c err) (hb : Below w.heap.size w w') : Dec w' db ao n c err :=
  h.kept (hb.block db (World.block_lt_of_cell? w _ h.c0)) (fun k hk _ => hb.block k hk)
theorem Rd.below {w w' : World} {db g o c : Nat} {bs : List UInt8} (h : Rd w db bs g o c) (hb : Below w.heap.size w w') : Rd w' db bs g o c :=
  ⟨h.dec.below hb, h.cap, h.ne, fun j b hj => by
    have := h.at' j b hj
    rw [hb.cell (p := ⟨g, o + j, none⟩) (World.block_lt_of_cell? w _ this)]; exact this⟩

/-- The field b is set anew. -/
theorem Dec.set0 {w : World} {db n c : Nat} {ao : Option Addr} {err : Value} (h : Dec w db ao n c err) (ao' : Option Addr) (n' c' : Nat) : Dec (w.setCell ⟨db, 0, none⟩ (.slice ao' n' c')) db ao' n' c' err := by
  obtain ⟨eb, s, c2, hs, hne⟩ := h.c2
  refine ⟨World.cell?_setCell_same w _ _ h.c0, ?_, ⟨eb, s, ?_, ?_, hne⟩, ?_, ?_⟩
  · rw [World.cell?_setCell_other w ⟨db, 0, none⟩ ⟨db, 1, none⟩ _ (by simp)]; exact h.c1
  · rw [World.cell?_setCell_other w ⟨db, 0, none⟩ ⟨db, 2, none⟩ _ (by simp)]; exact c2
  · rw [World.cell?_setCell_other w ⟨db, 0, none⟩ ⟨eb, 0, none⟩ _ (by intro e; exact hne (congrArg Addr.block e).symm)]; exact hs
  · rw [World.frozen?_setCell]; exact h.f0
  · rw [World.frozen?_setCell]; exact h.f1

/-- k bytes taken. -/
theorem Rd.took {w : World} {db g o c k : Nat} {bs : List UInt8} (h : Rd w db bs g o c) (hk : k ≤ bs.length) :
    Rd (w.setCell ⟨db, 0, none⟩ (.slice (some ⟨g, offAt o c k, none⟩) (bs.length - k) (c - k))) db (bs.drop k) g (offAt o c k) (c - k) ∧
    w.grownBy (w.setCell ⟨db, 0, none⟩ (.slice (some ⟨g, offAt o c k, none⟩) (bs.length - k) (c - k))) (some db) ∧
    (∀ (j : Nat) (b : UInt8), (bs.take k)[j]? = some b → (w.setCell ⟨db, 0, none⟩ (.slice (some ⟨g, offAt o c k, none⟩) (bs.length - k) (c - k))).cell? ⟨g, o + j, none⟩ = some (.int .u8 b.toNat)) := by
  have hl : (bs.drop k).length = bs.length - k := List.length_drop
  have hcap := h.cap
  have kc : ∀ j (v : Value), (w.setCell ⟨db, 0, none⟩ v).cell? ⟨g, j, none⟩ = w.cell? ⟨g, j, none⟩ := fun j v => World.cell?_setCell_other w ⟨db, 0, none⟩ ⟨g, j, none⟩ v (by intro e; exact h.ne (congrArg Addr.block e).symm)
  refine ⟨⟨?_, by omega, h.ne, fun j b hj => ?_⟩, ⟨rfl, rfl, rfl, by simp [World.setCell], fun i _ hi => Below.heap_setCell _ _ _ _ (fun e => hi (by rw [e]))⟩, fun j b hj => ?_⟩
  · rw [hl]; exact h.dec.set0 _ _ _
  · rw [kc]
    rw [List.getElem?_drop] at hj
    have hlt : k + j < bs.length := (List.getElem?_eq_some_iff.1 hj).1
    have : offAt o c k = o + k := by unfold offAt; rw [if_neg (by omega)]
    rw [this, Nat.add_assoc]
    exact h.at' (k + j) b hj
  · rw [kc]
    by_cases hjk : j < k
    · rw [List.getElem?_take_of_lt hjk] at hj; exact h.at' j b hj
    · rw [List.getElem?_eq_none (by rw [List.length_take]; omega)] at hj; cases hj

theorem take_rd (db g o c k : Nat) (bs : List UInt8) (w : World) (h : Rd w db bs g o c) (hk : k ≤ bs.length) :
    Calls Ybaf.prog 17 #[.pointer (some ⟨db, 0, none⟩), .int .i64 k] w fun e w' => e = .returned (.slice (some ⟨g, o, none⟩) k c) ∧ Rd w' db (bs.drop k) g (offAt o c k) (c - k) ∧ w.grownBy w' (some db) ∧
      (∀ (j : Nat) (b : UInt8), (bs.take k)[j]? = some b → w'.cell? ⟨g, o + j, none⟩ = some (.int .u8 b.toNat)) := by
  have hcap := h.cap
  refine (take_ok db bs.length c g o k w h.dec (by omega) (by omega)).mono ?_
  rintro e w' ⟨rfl, rfl⟩
  exact ⟨rfl, (h.took hk).1, (h.took hk).2.1, (h.took hk).2.2⟩
end Go.Proofs.YbulkbscFmt
