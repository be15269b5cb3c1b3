/-
  (*Decoder).Bytes (20), Str (15); and what they do in whatever state.
-/
import Derived.Test.YbulkbscFmtRead
namespace Go.Proofs.YbulkbscFmt
open Go.RowKit Go.Extern.Stop Go.Stop Go.Extern

theorem be2_lt (b0 b1 : UInt8) : Lib.beNat [b0, b1] < 65536 := by
  have h0 : b0.toNat < 256 := b0.toNat_lt
  have h1 : b1.toNat < 256 := b1.toNat_lt
  simp only [Lib.beNat, Lib.beFrom]
  omega

set_option maxHeartbeats 400000 in
theorem bytes_rd (db g o c k : Nat) (b0 b1 : UInt8) (bs : List UInt8) (w : World) (h : Rd w db (b0 :: b1 :: bs) g o c) (hk : Lib.beNat [b0, b1] = k) (hle : k ≤ bs.length) :
    Calls Ybaf.prog 20 #[.pointer (some ⟨db, 0, none⟩)] w fun e w' => ∃ g o c, e = .returned (.slice (some ⟨g, o, none⟩) k c) ∧ RdE w' db (bs.drop k) ∧ w.grownBy w' (some db) ∧
      (∀ (j : Nat) (b : UInt8), (bs.take k)[j]? = some b → w'.cell? ⟨g, o + j, none⟩ = some (.int .u8 b.toNat)) := by
  have hlt := be2_lt b0 b1
  have hC := u16_rd db g o c b0 b1 bs w h
  rw [hk] at hC hlt
  have hlt' : (k : Int) < 65536 := by omega
  clear h hk
  go_enter Ybaf.func20, Ybaf.ntmps20
  go_wp2_with fail
  refine hC.mono ?_
  rintro e w1 ⟨rfl, ⟨g1, o1, c1, h1⟩, hg1⟩
  go_wp2_with fail
  refine (take_rd db g1 o1 c1 k _ _ h1 hle).mono ?_
  rintro e w2 ⟨rfl, h2, hg2, hc2⟩
  go_wp2
  go_ret
  exact ⟨g1, o1, c1, rfl, ⟨_, _, _, h2⟩, grown_trans hg1 hg2, hc2⟩

set_option maxHeartbeats 400000 in
theorem bytes_short (F : Interp) (db g o c k : Nat) (b0 b1 : UInt8) (bs : List UInt8) (w : World) (hF : F.answers w.tape) (h : Rd w db (b0 :: b1 :: bs) g o c) (hk : Lib.beNat [b0, b1] = k) (hle : bs.length < k) :
    Calls Ybaf.prog 20 #[.pointer (some ⟨db, 0, none⟩)] w fun e w' => e = .returned (.slice none 0 0) ∧ Er w' db ∧ w.grownBy w' (some db) := by
  have hlt := be2_lt b0 b1
  have hC := u16_rd db g o c b0 b1 bs w h
  rw [hk] at hC hlt
  have hlt' : (k : Int) < 65536 := by omega
  clear h hk
  go_enter Ybaf.func20, Ybaf.ntmps20
  go_wp2_with fail
  refine hC.mono ?_
  rintro e w1 ⟨rfl, ⟨g1, o1, c1, h1⟩, hg1⟩
  have hF1 : F.answers w1.tape := by rw [hg1.tape]; exact hF
  go_wp2_with fail
  refine (take_short F db _ c1 _ k _ hF1 h1.dec (by omega)).mono ?_
  rintro e w2 ⟨rfl, ⟨a, h2⟩, hg2⟩
  go_wp2
  go_ret
  exact ⟨rfl, ⟨_, _, _, _, h2⟩, grown_trans hg1 hg2⟩

set_option maxHeartbeats 400000 in
theorem bytes_short0 (F : Interp) (db n c : Nat) (ao : Option Addr) (w : World) (hF : F.answers w.tape) (h : Dec w db ao n c .nilIface) (hn : n < 2) :
    Calls Ybaf.prog 20 #[.pointer (some ⟨db, 0, none⟩)] w fun e w' => e = .returned (.slice none 0 0) ∧ Er w' db ∧ w.grownBy w' (some db) := by
  go_enter Ybaf.func20, Ybaf.ntmps20
  go_wp2_with fail
  refine (u16_short F db n c ao _ hF h hn).mono ?_
  rintro e w1 ⟨rfl, ⟨a, h1⟩, hg1⟩
  go_wp2_with fail
  refine (take_err db n c ao a 0 _ h1).mono ?_
  rintro e w2 ⟨rfl, rfl⟩
  go_wp2
  go_ret
  exact ⟨rfl, ⟨_, _, _, _, h1⟩, hg1⟩

set_option maxHeartbeats 400000 in
theorem bytes_err (db n c : Nat) (ao : Option Addr) (a : Addr) (w : World) (h : Dec w db ao n c (.iface 60 (.pointer (some a)))) :
    Calls Ybaf.prog 20 #[.pointer (some ⟨db, 0, none⟩)] w fun e w' => e = .returned (.slice none 0 0) ∧ w' = w := by
  go_enter Ybaf.func20, Ybaf.ntmps20
  go_wp2_with fail
  refine (u16_err db n c ao a _ h).mono ?_
  rintro e w1 ⟨rfl, rfl⟩
  go_wp2_with fail
  refine (take_err db n c ao a 0 _ h).mono ?_
  rintro e w2 ⟨rfl, rfl⟩
  go_wp2
  go_ret
  exact ⟨rfl, rfl⟩

theorem convS (w : World) (g o c k : Nat) (l : List UInt8) (hl : l.length = k) (hc : ∀ (j : Nat) (b : UInt8), l[j]? = some b → w.cell? ⟨g, o + j, none⟩ = some (.int .u8 b.toNat)) :
    (convert 24 9 (.slice (some ⟨g, o, none⟩) k c)).run Ybaf.prog w = .ok (.string ⟨l.toArray⟩) w := by
  subst hl
  exact run_convert_bytes_back w 24 9 5 ⟨g, o, none⟩ c l Ybaf.underlying24 Ybaf.underlying5 Ybaf.underlying9 (fun j hj => by
    rw [Addr.add_lit]; exact hc j _ (List.getElem?_eq_getElem hj))
theorem convN (w : World) : (convert 24 9 (.slice none 0 0)).run Ybaf.prog w = .ok (.string ⟨#[]⟩) w :=
  Lib.run_convert_nil_bytes w 24 9 5 0 Ybaf.underlying24 Ybaf.underlying5 Ybaf.underlying9

set_option maxHeartbeats 400000 in
theorem str_rd (db g o c k : Nat) (b0 b1 : UInt8) (bs : List UInt8) (w : World) (h : Rd w db (b0 :: b1 :: bs) g o c) (hk : Lib.beNat [b0, b1] = k) (hle : k ≤ bs.length) :
    Calls Ybaf.prog 15 #[.pointer (some ⟨db, 0, none⟩)] w fun e w' => e = .returned (.string ⟨(bs.take k).toArray⟩) ∧ RdE w' db (bs.drop k) ∧ w.grownBy w' (some db) := by
  have hC := bytes_rd db g o c k b0 b1 bs w h hk hle
  have hl : (bs.take k).length = k := by rw [List.length_take]; omega
  clear h hk
  go_enter Ybaf.func15, Ybaf.ntmps15
  go_wp2_with fail
  refine hC.mono ?_
  rintro e w1 ⟨g1, o1, c1, rfl, h1, hg1, hc1⟩
  have hcv := convS w1 g1 o1 c1 k _ hl hc1
  clear hc1 hl
  go_wp2
  go_ret
  exact ⟨rfl, h1, hg1⟩

set_option maxHeartbeats 400000 in
/-- Str where Bytes hands back nil. -/
theorem str_nil (db : Nat) (w : World) (Q : World → Prop) (hC : Calls Ybaf.prog 20 #[.pointer (some ⟨db, 0, none⟩)] w fun e w' => e = .returned (.slice none 0 0) ∧ Q w') :
    Calls Ybaf.prog 15 #[.pointer (some ⟨db, 0, none⟩)] w fun e w' => e = .returned (.string ⟨#[]⟩) ∧ Q w' := by
  have hcv := convN
  go_enter Ybaf.func15, Ybaf.ntmps15
  go_wp2_with fail
  refine hC.mono ?_
  rintro e w1 ⟨rfl, h1⟩
  clear hC
  go_wp2
  go_ret
  exact ⟨rfl, h1⟩

/-- The Decoder, in whatever state. -/
def St (w : World) (db : Nat) : Prop := (∃ bs, RdE w db bs) ∨ Er w db

theorem St.below {w w' : World} {db : Nat} (h : St w db) (hb : Below w.heap.size w w') : St w' db := by
  rcases h with ⟨bs, g, o, c, h⟩ | ⟨ao, n, c, a, h⟩
  · exact .inl ⟨bs, g, o, c, h.below hb⟩
  · exact .inr ⟨ao, n, c, a, h.below hb⟩

theorem grown_self (w : World) (row : Option Nat) : w.grownBy w row := ⟨rfl, rfl, rfl, Nat.le_refl _, fun _ _ _ => rfl⟩

theorem str_weak (F : Interp) (db : Nat) (w : World) (hF : F.answers w.tape) (h : St w db) :
    Calls Ybaf.prog 15 #[.pointer (some ⟨db, 0, none⟩)] w fun e w' => ∃ s, e = .returned (.string s) ∧ s.size ≤ maxLen ∧ St w' db ∧ w.grownBy w' (some db) := by
  have hz : (⟨#[]⟩ : ByteArray).size ≤ maxLen := by decide
  rcases h with ⟨bs, g, o, c, h⟩ | ⟨ao, n, c, a, h⟩
  · match bs, h with
    | [], h => exact (str_nil db w _ (bytes_short0 F db 0 c _ w hF h.dec (by omega))).mono fun e w' ⟨he, h1, h2⟩ => ⟨_, he, hz, .inr h1, h2⟩
    | [b], h => exact (str_nil db w _ (bytes_short0 F db 1 c _ w hF h.dec (by omega))).mono fun e w' ⟨he, h1, h2⟩ => ⟨_, he, hz, .inr h1, h2⟩
    | b0 :: b1 :: bs, h =>
      have hlt := be2_lt b0 b1
      by_cases hle : Lib.beNat [b0, b1] ≤ bs.length
      · refine (str_rd db g o c _ b0 b1 bs w h rfl hle).mono fun e w' ⟨he, h1, h2⟩ => ⟨_, he, ?_, .inl ⟨_, h1⟩, h2⟩
        show (bs.take (Lib.beNat [b0, b1])).toArray.size ≤ maxLen
        simp only [List.size_toArray, List.length_take, maxLen]
        omega
      · exact (str_nil db w _ (bytes_short F db g o c _ b0 b1 bs w hF h rfl (by omega))).mono fun e w' ⟨he, h1, h2⟩ => ⟨_, he, hz, .inr h1, h2⟩
  · exact (str_nil db w _ (bytes_err db n c ao a w h)).mono fun e w' ⟨he, h1⟩ => ⟨_, he, hz, .inr (by rw [h1]; exact ⟨ao, n, c, a, h⟩), by rw [h1]; exact grown_self _ _⟩

theorem be8_lt (b0 b1 b2 b3 b4 b5 b6 b7 : UInt8) : Lib.beNat [b0, b1, b2, b3, b4, b5, b6, b7] < 18446744073709551616 := by
  have h0 : b0.toNat < 256 := b0.toNat_lt
  have h1 : b1.toNat < 256 := b1.toNat_lt
  have h2 : b2.toNat < 256 := b2.toNat_lt
  have h3 : b3.toNat < 256 := b3.toNat_lt
  have h4 : b4.toNat < 256 := b4.toNat_lt
  have h5 : b5.toNat < 256 := b5.toNat_lt
  have h6 : b6.toNat < 256 := b6.toNat_lt
  have h7 : b7.toNat < 256 := b7.toNat_lt
  simp only [Lib.beNat, Lib.beFrom]
  omega

theorem eight {l : List UInt8} (h : ¬ l.length < 8) : ∃ b0 b1 b2 b3 b4 b5 b6 b7 r, l = b0 :: b1 :: b2 :: b3 :: b4 :: b5 :: b6 :: b7 :: r := by
  match l, h with
  | [], h => simp at h
  | [_], h => simp at h
  | [_, _], h => simp at h
  | [_, _, _], h => simp at h
  | [_, _, _, _], h => simp at h
  | [_, _, _, _, _], h => simp at h
  | [_, _, _, _, _, _], h => simp at h
  | [_, _, _, _, _, _, _], h => simp at h
  | b0 :: b1 :: b2 :: b3 :: b4 :: b5 :: b6 :: b7 :: r, _ => exact ⟨b0, b1, b2, b3, b4, b5, b6, b7, r, rfl⟩

theorem u64_weak (F : Interp) (db : Nat) (w : World) (hF : F.answers w.tape) (h : St w db) :
    Calls Ybaf.prog 16 #[.pointer (some ⟨db, 0, none⟩)] w fun e w' => ∃ x : Int, e = .returned (.int .u64 x) ∧ (Lit.int .u64 x).wf = true ∧ St w' db ∧ w.grownBy w' (some db) := by
  have hz : (Lit.int .u64 0).wf = true := WalkArith.wf_u64 (by omega)
  rcases h with ⟨bs, g, o, c, h⟩ | ⟨ao, n, c, a, h⟩
  · by_cases hl : bs.length < 8
    · exact (u64_short F db _ c _ w hF h.dec hl).mono fun e w' ⟨he, ⟨a, h1⟩, h2⟩ => ⟨_, he, hz, .inr ⟨_, _, _, _, h1⟩, h2⟩
    · obtain ⟨b0, b1, b2, b3, b4, b5, b6, b7, r, rfl⟩ := eight hl
      have hlt := be8_lt b0 b1 b2 b3 b4 b5 b6 b7
      exact (u64_rd db g o c b0 b1 b2 b3 b4 b5 b6 b7 r w h).mono fun e w' ⟨he, h1, h2⟩ => ⟨_, he, WalkArith.wf_u64 (by omega), .inl ⟨_, h1⟩, h2⟩
  · exact (u64_err db n c ao a w h).mono fun e w' ⟨he, h1⟩ => ⟨_, he, hz, .inr (by rw [h1]; exact ⟨ao, n, c, a, h⟩), by rw [h1]; exact grown_self _ _⟩
end Go.Proofs.YbulkbscFmt
