/-
  THE WALK OF LawS0130AOne (function 4).
-/
import Derived.Test.YbulkbraNew
import Derived.WalkLawsBesides
import Derived.Laws.Bits64
import Derived.OpenShut
namespace Go.Proofs.Ybulkbra
open Go.RowKit Go.Maps

abbrev T : DataW Unit := .lit (.bool true)
abbrev Fz : DataW Unit := .lit (.bool false)

theorem xor_mod2 (a : Nat) : (a ^^^ 1) % 2 = (a + 1) % 2 := by
  have h := Nat.testBit_xor a 1 0
  rw [Nat.testBit_zero, Nat.testBit_zero, Nat.testBit_zero] at h
  rcases Nat.mod_two_eq_zero_or_one (a ^^^ 1) with e | e <;> rcases Nat.mod_two_eq_zero_or_one a with e' | e' <;> rw [e, e'] at h <;> first | omega | (exfalso; revert h; decide)
theorem xor1_ne (i : Int) : bits BinOp.xor IntKind.i64 i 1 ≠ i := by
  have h1 : (BitVec.ofInt 64 i ^^^ BitVec.ofInt 64 1).toNat % 2 = ((i % 18446744073709551616).toNat + 1) % 2 := by
    rw [BitVec.toNat_xor, BitVec.toNat_ofInt, BitVec.toNat_ofInt]
    exact xor_mod2 _
  have h2 : bits BinOp.xor IntKind.i64 i 1 = IntKind.i64.wrap ((BitVec.ofInt 64 i ^^^ BitVec.ofInt 64 1).toNat : Int) := rfl
  rw [h2, IntKind.wrap_i64]
  generalize (BitVec.ofInt 64 i ^^^ BitVec.ofInt 64 1).toNat = v at h1
  omega

theorem tidy0 : Tidy (.map [] : DataW Unit) := tidy_empty
theorem atKey0 (k : Lit) : (DataW.map [] : DataW Unit).atKey k Fz = Fz := rfl
theorem has0 (k : Lit) : Maps.has (DataW.map [] : DataW Unit) k = false := rfl

theorem size1 (k : Lit) : Maps.size ((DataW.map [] : DataW Unit).put k T) = 1 := by
  rw [size_put tidy0, has0]; rfl
theorem size2 {k : Lit} (hk : WideAt.IsKeyLit k) : Maps.size (((DataW.map [] : DataW Unit).put k T).put k T) = 1 := by
  rw [size_put (tidy0.put hk T), has_put_same tidy0.isMap hk, if_pos rfl, size1]

theorem ne_snoc (s : ByteArray) (t : ByteArray) (h : t.size = s.size + 1) : t ≠ s := fun e => by rw [e] at h; omega

set_option maxHeartbeats 1000000 in
theorem one_any (i : Int) (s : ByteArray) (w : World) (wi : (Lit.int .i64 i).wf = true) (hs : s.size ≤ 140737488355328) :
    Calls Yba.prog 4 #[.int .i64 i, .string s] w fun e w' => e = .returned (.bool true) ∧ Below w.heap.size w w' := by
  have hs' : s.size ≤ maxLen := by unfold maxLen; omega
  have hk := kl_key wi hs'
  go_enter Yba.func4, Yba.ntmps4
  go_wp2_with fail
  refine (new_nil _).mono ?_
  rintro e w1 ⟨b, bm, lost, rfl, hM, hb, hbm, hbl⟩
  go_wp2_with fail
  refine (pass_any b bm 0 _ 0 _ i s _ hM (by unfold maxLen; omega) wi hs').mono ?_
  rintro e w2 ⟨rfl, hM2, ho2⟩
  have hbl2 := ho2.below hbl hb hbm
  have c7 := hM2.c7
  have hlen := hM2.map.len Yba.underlying43
  rw [size1] at hlen
  obtain ⟨c, hrun, hc⟩ := hM2.map.lookup_bool law47 Yba.underlying43 Yba.underlying4 (zero4 _) (key_of wi hs')
  rw [atKey_put_same tidy0.isMap hk] at hc
  obtain rfl : c = true := by simpa using hc.symm
  clear hc hM ho2 hbl
  go_wp2_with fail
  refine (pass_any b bm (0 + 1) _ 0 _ i s _ hM2 (by unfold maxLen; omega) wi hs').mono ?_
  clear hrun hlen c7
  rintro e w3 ⟨rfl, hM3, ho3⟩
  have hbl3 := ho3.below hbl2 hb hbm
  have c7 := hM3.c7
  have c5 := hM3.c5
  have c4 := hM3.c4
  have hlen := hM3.map.len Yba.underlying43
  rw [size2 hk] at hlen
  obtain ⟨c, hrun, hc⟩ := hM3.map.lookup_bool law47 Yba.underlying43 Yba.underlying4 (zero4 _) (key_of wi hs')
  rw [atKey_put_same (IsMap.put tidy0.isMap _ _) hk] at hc
  obtain rfl : c = true := by simpa using hc.symm
  have hsx : (s ++ (⟨#[120]⟩ : ByteArray)).size = s.size + 1 := by simp [ByteArray.size_append]; rfl
  have hsx' : (s ++ (⟨#[120]⟩ : ByteArray)).size ≤ maxLen := by rw [hsx]; unfold maxLen; omega
  obtain ⟨cx, hrunx, hcx⟩ := hM3.map.lookup_bool law47 Yba.underlying43 Yba.underlying4 (zero4 _) (key_of wi hsx')
  have hnx : kl i (s ++ (⟨#[120]⟩ : ByteArray)) ≠ kl i s := fun e => ne_snoc _ _ hsx (kl_inj wi hsx' wi hs' e).2
  rw [atKey_put_other hnx, atKey_put_other hnx, atKey0] at hcx
  obtain rfl : cx = false := by simpa using hcx.symm
  obtain ⟨cy, hruny, hcy⟩ := hM3.map.lookup_bool law47 Yba.underlying43 Yba.underlying4 (zero4 _) (key_of (wf_bits BinOp.xor .i64 i 1) hs')
  have hny : kl (bits BinOp.xor .i64 i 1) s ≠ kl i s := fun e => xor1_ne i (kl_inj (wf_bits BinOp.xor .i64 i 1) hs' wi hs' e).1
  rw [atKey_put_other hny, atKey_put_other hny, atKey0] at hcy
  obtain rfl : cy = false := by simpa using hcy.symm
  clear hc hM2 ho3 hbl2 hcx hnx hsx hsx' hcy hny hM3
  go_wp2
  go_ret
  exact ⟨rfl, hbl3⟩
end Go.Proofs.Ybulkbra
