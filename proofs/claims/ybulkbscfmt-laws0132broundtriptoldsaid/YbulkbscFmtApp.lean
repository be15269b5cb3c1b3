/-
  The appenders AppendUint16 (5), AppendUint64 (6) (after the guide's shelf) and zzs0132bval (7).
-/
import Derived.Test.YbulkbscFmtCounts
import Derived.Lib.UnsafeStr
namespace Go.Proofs.YbulkbscFmt
open Go.RowKit

set_option maxHeartbeats 2000000 in
set_option maxRecDepth 100000 in
theorem app16 (B n v : Nat) (hv : v < 65536) (sv : Value) (xs : List Value) (w : World) (hown : w.ownsRow B 5 1 sv n xs) (hBw : B ≤ w.heap.size) (hlim : n + 2 ≤ 140737488355328) :
    Calls Ybaf.prog 5 #[.agg #[], sv, .int .u16 v] w fun e w' => ∃ v', e = .returned v' ∧ w'.ownsRow B 5 1 v' (n + 2) (xs ++ Lib.byteCells (Lib.beBytes 2 v)) ∧ Below B w w' := by
  obtain ⟨i0, hi, hz0, hz1, hz2⟩ := info_parts info5
  have e0 : ((v % 256 : Nat) : Int) = (v : Int) % 256 := by omega
  have e1 : ((v / 256 % 256 : Nat) : Int) = (v : Int) / 256 := by omega
  have hb : Lib.byteCells (Lib.beBytes 2 v) = [Value.int .u8 ((v : Int) / 256), Value.int .u8 ((v : Int) % 256)] := by
    simp only [Lib.byteCells, Lib.beBytes, Lib.leBytes, List.reverse_cons, List.reverse_nil, List.nil_append, List.cons_append, List.map, Lib.toUInt8_mod, e0, e1]
  have HB : Hid (Lib.byteCells (Lib.beBytes 2 v) = [Value.int .u8 ((v : Int) / 256), Value.int .u8 ((v : Int) % 256)]) := hb
  clear hb e0 e1
  go_enter Ybaf.func5, Ybaf.ntmps5
  go_wp2_with (at_builtin; refine wpList_append_own _ rfl _ _ 24 rfl B 5 i0 (.int .u8 0) 1 1 Ybaf.underlying24 hi hz0 hz1 hz2 rfl (by decide) _ _ _ rfl ((hown.alloc _).alloc _) _ 2 2 [Value.int .u8 ((v : Int) / 256), Value.int .u8 ((v : Int) % 256)] rfl rfl ?c1 ?c2 ?c3 ?c4 ?c5 ?_)
  case c1 =>
    intro j u hj
    match j, hj with
    | 0, hj => simp at hj; subst hj; simp [Addr.add]
    | 1, hj => simp at hj; subst hj; simp [Addr.add]
  case c2 => intro u hu; simp at hu; rcases hu with rfl | rfl <;> rfl
  case c3 => unfold maxLen; omega
  case c4 => omega
  case c5 => simp; omega
  intro v' w2 hown' hgrow _
  go_wp2
  go_ret
  refine ⟨v', rfl, by rw [HB.out]; exact hown', ?_⟩
  exact ((((Below.refl B w).alloc hBw _).alloc (by simp; omega) _).grown hgrow (by simp; omega) (fun k hk => (hown.lt k hk).1))

set_option maxHeartbeats 4000000 in
set_option maxRecDepth 100000 in
theorem app64 (B n v : Nat) (hv : v < 18446744073709551616) (sv : Value) (xs : List Value) (w : World) (hown : w.ownsRow B 5 1 sv n xs) (hBw : B ≤ w.heap.size) (hlim : n + 8 ≤ 140737488355328) :
    Calls Ybaf.prog 6 #[.agg #[], sv, .int .u64 v] w fun e w' => ∃ v', e = .returned v' ∧ w'.ownsRow B 5 1 v' (n + 8) (xs ++ Lib.byteCells (Lib.beBytes 8 v)) ∧ Below B w w' := by
  obtain ⟨i0, hi, hz0, hz1, hz2⟩ := info_parts info5
  have e0 : ((v % 256 : Nat) : Int) = (v : Int) % 256 := by omega
  have e1 : ((v / 256 % 256 : Nat) : Int) = (v : Int) / 256 % 256 := by omega
  have e2 : ((v / 256 / 256 % 256 : Nat) : Int) = (v : Int) / 65536 % 256 := by omega
  have e3 : ((v / 256 / 256 / 256 % 256 : Nat) : Int) = (v : Int) / 16777216 % 256 := by omega
  have e4 : ((v / 256 / 256 / 256 / 256 % 256 : Nat) : Int) = (v : Int) / 4294967296 % 256 := by omega
  have e5 : ((v / 256 / 256 / 256 / 256 / 256 % 256 : Nat) : Int) = (v : Int) / 1099511627776 % 256 := by omega
  have e6 : ((v / 256 / 256 / 256 / 256 / 256 / 256 % 256 : Nat) : Int) = (v : Int) / 281474976710656 % 256 := by omega
  have e7 : ((v / 256 / 256 / 256 / 256 / 256 / 256 / 256 % 256 : Nat) : Int) = (v : Int) / 72057594037927936 := by omega
  have hb : Lib.byteCells (Lib.beBytes 8 v) = [Value.int .u8 ((v : Int) / 72057594037927936), Value.int .u8 ((v : Int) / 281474976710656 % 256), Value.int .u8 ((v : Int) / 1099511627776 % 256), Value.int .u8 ((v : Int) / 4294967296 % 256), Value.int .u8 ((v : Int) / 16777216 % 256), Value.int .u8 ((v : Int) / 65536 % 256), Value.int .u8 ((v : Int) / 256 % 256), Value.int .u8 ((v : Int) % 256)] := by
    simp only [Lib.byteCells, Lib.beBytes, Lib.leBytes, List.reverse_cons, List.reverse_nil, List.nil_append, List.cons_append, List.map, Lib.toUInt8_mod, e0, e1, e2, e3, e4, e5, e6, e7]
  have HB := (show Hid (Lib.byteCells (Lib.beBytes 8 v) = [Value.int .u8 ((v : Int) / 72057594037927936), Value.int .u8 ((v : Int) / 281474976710656 % 256), Value.int .u8 ((v : Int) / 1099511627776 % 256), Value.int .u8 ((v : Int) / 4294967296 % 256), Value.int .u8 ((v : Int) / 16777216 % 256), Value.int .u8 ((v : Int) / 65536 % 256), Value.int .u8 ((v : Int) / 256 % 256), Value.int .u8 ((v : Int) % 256)]) from hb)
  clear hb e0 e1 e2 e3 e4 e5 e6 e7
  go_enter Ybaf.func6, Ybaf.ntmps6
  go_wp2_with (at_builtin; refine wpList_append_own _ rfl _ _ 24 rfl B 5 i0 (.int .u8 0) 1 1 Ybaf.underlying24 hi hz0 hz1 hz2 rfl (by decide) _ _ _ rfl ((hown.alloc _).alloc _) _ 8 8 [Value.int .u8 ((v : Int) / 72057594037927936), Value.int .u8 ((v : Int) / 281474976710656 % 256), Value.int .u8 ((v : Int) / 1099511627776 % 256), Value.int .u8 ((v : Int) / 4294967296 % 256), Value.int .u8 ((v : Int) / 16777216 % 256), Value.int .u8 ((v : Int) / 65536 % 256), Value.int .u8 ((v : Int) / 256 % 256), Value.int .u8 ((v : Int) % 256)] rfl rfl ?c1 ?c2 ?c3 ?c4 ?c5 ?_)
  case c1 =>
    intro j u hj
    match j, hj with
    | 0, hj => simp at hj; subst hj; simp [Addr.add]
    | 1, hj => simp at hj; subst hj; simp [Addr.add]
    | 2, hj => simp at hj; subst hj; simp [Addr.add]
    | 3, hj => simp at hj; subst hj; simp [Addr.add]
    | 4, hj => simp at hj; subst hj; simp [Addr.add]
    | 5, hj => simp at hj; subst hj; simp [Addr.add]
    | 6, hj => simp at hj; subst hj; simp [Addr.add]
    | 7, hj => simp at hj; subst hj; simp [Addr.add]
  case c2 => intro u hu; simp at hu; rcases hu with rfl | rfl | rfl | rfl | rfl | rfl | rfl | rfl <;> rfl
  case c3 => unfold maxLen; omega
  case c4 => omega
  case c5 => simp; omega
  intro v' w2 hown' hgrow _
  go_wp2
  go_ret
  refine ⟨v', rfl, by rw [HB.out]; exact hown', ?_⟩
  exact ((((Below.refl B w).alloc hBw _).alloc (by simp; omega) _).grown hgrow (by simp; omega) (fun k hk => (hown.lt k hk).1))

/-- The value of entry i. -/
def valAt (nv : Nat) (vs : Nat → Nat) (i : Nat) : Nat := if nv = 0 then i else vs (i % nv)

set_option maxHeartbeats 400000 in
theorem val_any (vo : Option Addr) (nv cv vb voff : Nat) (vs : Nat → Nat) (i : Nat) (w : World) (hi : (i : Int) ≤ 1000000) (hnv : (nv : Int) ≤ 9223372036854775807)
    (hix : ∀ (t : Nat) (W : World), t < nv → (Instr.indexAt 23 (.slice vo nv cv) (.int .i64 (t : Int))).run Ybaf.prog W = .ok (.pointer (some ⟨vb, voff + t, none⟩)) W)
    (hc : ∀ t, t < nv → w.cell? ⟨vb, voff + t, none⟩ = some (.int .u64 (vs t))) :
    Calls Ybaf.prog 7 #[.slice vo nv cv, .int .i64 i] w fun e w' => e = .returned (.int .u64 (valAt nv vs i)) ∧ w' = w := by
  by_cases hz : nv = 0
  · subst hz
    go_enter Ybaf.func7, Ybaf.ntmps7
    go_wp2
    go_ret
    exact ⟨rfl, rfl⟩
  · have hz' : ((nv : Int) == 0) = false := by simp; omega
    have hlt : i % nv < nv := Nat.mod_lt _ (by omega)
    have em : ((i % nv : Nat) : Int) = (i : Int) % (nv : Int) := by simp
    have hx := fun W => hix (i % nv) W hlt
    rw [em] at hx
    have hcc := hc (i % nv) hlt
    have ev : valAt nv vs i = vs (i % nv) := if_neg hz
    have HV : Hid (valAt nv vs i = vs (i % nv)) := ev
    have hpos : (0 : Int) < nv := by omega
    clear hix hc ev em
    go_enter Ybaf.func7, Ybaf.ntmps7
    go_wp2
    go_ret
    exact ⟨by rw [HV.out]; rfl, rfl⟩
end Go.Proofs.YbulkbscFmt
