/-
  The plain law of LawS0132BRoundTrip: the map behind m entries; the bytes behind i entries.
-/
import Derived.Test.YbulkbscFmtExact
namespace Go.Proofs.YbulkbscFmt
open Go.RowKit Go.Maps

abbrev keyF (s : ByteArray) : Lit := .string s.data.toList
theorem keyF_inj {a b : ByteArray} (h : keyF a = keyF b) : a = b := by
  have h1 : a.data.toList = b.data.toList := Lit.string.inj h
  exact ByteArray.ext (Array.toList_inj.1 h1)
theorem keyF_lit (s : ByteArray) : WideAt.IsKeyLit (keyF s) := by simp [WideAt.IsKeyLit]

/-- The last index below m whose key is that of i. -/
def lastTo (K : Nat → ByteArray) (i : Nat) : Nat → Nat
  | 0 => i
  | m + 1 => if i ≤ m ∧ K m = K i then m else lastTo K i m
theorem lastTo_le (K : Nat → ByteArray) (i : Nat) : ∀ m, m ≤ i → lastTo K i m = i
  | 0, _ => rfl
  | m + 1, h => by
    rw [lastTo, if_neg (by omega)]
    exact lastTo_le K i m (by omega)
theorem lastTo_first (K : Nat → ByteArray) (i : Nat) : lastTo K i (i + 1) = i := by
  rw [lastTo, if_pos ⟨Nat.le_refl _, rfl⟩]
theorem lastTo_hit (K : Nat → ByteArray) {i m : Nat} (hm : i ≤ m) (h : K m = K i) : lastTo K i (m + 1) = m := by
  rw [lastTo, if_pos ⟨hm, h⟩]
theorem lastTo_miss (K : Nat → ByteArray) {i m : Nat} (h : ¬ K m = K i) : lastTo K i (m + 1) = lastTo K i m := by
  rw [lastTo, if_neg (fun x => h x.2)]
theorem lastTo_lt (K : Nat → ByteArray) (i : Nat) : ∀ m, i < m → lastTo K i m < m
  | m + 1, h => by
    by_cases hk : K m = K i
    · rw [lastTo_hit K (by omega) hk]; omega
    · rw [lastTo_miss K hk]
      rcases Nat.lt_or_ge i m with h1 | h1
      · have := lastTo_lt K i m h1; omega
      · rw [lastTo_le K i m h1]; omega

theorem mapF_tidy (K : Nat → ByteArray) (V : Nat → Nat) : ∀ m, Tidy (mapF K V m)
  | 0 => tidy_empty
  | m + 1 => (mapF_tidy K V m).put (keyF_lit _) _

theorem mapF_at (K : Nat → ByteArray) (V : Nat → Nat) (i : Nat) (z : DataW Unit) : ∀ m, i < m → (mapF K V m).atKey (keyF (K i)) z = .lit (.int .u64 (V (lastTo K i m))) ∧ has (mapF K V m) (keyF (K i)) = true
  | m + 1, h => by
    show ((mapF K V m).put (keyF (K m)) _).atKey _ z = _ ∧ has ((mapF K V m).put (keyF (K m)) _) _ = true
    by_cases hk : K m = K i
    · rw [lastTo_hit K (by omega) hk, hk]
      exact ⟨atKey_put_same (mapF_tidy K V m).isMap (keyF_lit _) _ _, has_put_same (mapF_tidy K V m).isMap (keyF_lit _) _⟩
    · have hne : keyF (K i) ≠ keyF (K m) := fun e => hk (keyF_inj e).symm
      have him : i < m := by
        rcases Nat.lt_or_ge i m with h1 | h1
        · exact h1
        · have : m = i := by omega
          exact absurd (by rw [this]) hk
      rw [lastTo_miss K hk, atKey_put_other hne, has_put_other hne]
      exact mapF_at K V i z m him

theorem mapF_has (K : Nat → ByteArray) (V : Nat → Nat) (s : ByteArray) : ∀ m, has (mapF K V m) (keyF s) = true ↔ ∃ j, j < m ∧ K j = s
  | 0 => by
    constructor
    · intro h; simp [mapF, has_eq] at h
    · rintro ⟨j, hj, _⟩; omega
  | m + 1 => by
    show has ((mapF K V m).put (keyF (K m)) _) _ = true ↔ _
    by_cases hk : K m = s
    · subst hk
      rw [has_put_same (mapF_tidy K V m).isMap (keyF_lit _)]
      exact ⟨fun _ => ⟨m, by omega, rfl⟩, fun _ => rfl⟩
    · have hne : keyF s ≠ keyF (K m) := fun e => hk (keyF_inj e).symm
      rw [has_put_other hne, mapF_has K V s m]
      constructor
      · rintro ⟨j, hj, e⟩; exact ⟨j, by omega, e⟩
      · rintro ⟨j, hj, e⟩
        refine ⟨j, ?_, e⟩
        rcases Nat.lt_or_ge j m with h1 | h1
        · exact h1
        · have : j = m := by omega
          subst this
          exact absurd e hk

theorem mapF_size_old (K : Nat → ByteArray) (V : Nat → Nat) {i j : Nat} (hj : j < i) (h : K j = K i) : size (mapF K V (i + 1)) = size (mapF K V i) := by
  show size ((mapF K V i).put (keyF (K i)) _) = _
  rw [size_put (mapF_tidy K V i), if_pos ((mapF_has K V (K i) i).2 ⟨j, hj, h⟩)]
theorem mapF_size_new (K : Nat → ByteArray) (V : Nat → Nat) {i : Nat} (h : ∀ j, j < i → ¬ K j = K i) : size (mapF K V (i + 1)) = size (mapF K V i) + 1 := by
  show size ((mapF K V i).put (keyF (K i)) _) = _
  rw [size_put (mapF_tidy K V i), if_neg (fun x => by obtain ⟨j, hj, e⟩ := (mapF_has K V (K i) i).1 x; exact h j hj e)]
theorem mapF_size_le (K : Nat → ByteArray) (V : Nat → Nat) : ∀ m, size (mapF K V m) ≤ m
  | 0 => Nat.le_refl _
  | m + 1 => by
    have := mapF_size_le K V m
    have h : size (mapF K V (m + 1)) = if has (mapF K V m) (keyF (K m)) then size (mapF K V m) else size (mapF K V m) + 1 := size_put (mapF_tidy K V m) _
    rw [h]
    split <;> omega

/-- The bytes behind i entries. -/
def preF (K : Nat → ByteArray) (V : Nat → Nat) (N : Nat) : Nat → List UInt8
  | 0 => Lib.beBytes 2 N
  | i + 1 => preF K V N i ++ (Lib.beBytes 2 (K i).size ++ ((K i).data.toList ++ Lib.beBytes 8 (V i)))

theorem pre_ent (K : Nat → ByteArray) (V : Nat → Nat) (tail : List UInt8) (N : Nat) : ∀ i, i ≤ N → preF K V N i ++ entF K V tail (N - i) i = Lib.beBytes 2 N ++ entF K V tail N 0
  | 0, _ => rfl
  | i + 1, h => by
    rw [← pre_ent K V tail N i (by omega)]
    have e : N - i = (N - (i + 1)) + 1 := by omega
    rw [e, preF, entF]
    simp only [List.append_assoc]
theorem pre_all (K : Nat → ByteArray) (V : Nat → Nat) (tail : List UInt8) (N : Nat) : preF K V N N ++ tail = Lib.beBytes 2 N ++ entF K V tail N 0 := by
  have := pre_ent K V tail N N (Nat.le_refl _)
  rwa [Nat.sub_self] at this
theorem pre_len (K : Nat → ByteArray) (V : Nat → Nat) (N : Nat) (hK : ∀ i, i < N → (K i).size ≤ 1024) : ∀ i, i ≤ N → (preF K V N i).length ≤ 2 + 1034 * i
  | 0, _ => by simp [preF, Lib.beBytes_length]
  | i + 1, h => by
    have h1 := pre_len K V N hK i (by omega)
    have h2 := hK i (by omega)
    have e : (K i).data.toList.length = (K i).size := Array.length_toList
    simp only [preF, List.length_append, Lib.beBytes_length, e]
    omega
theorem pre_two (K : Nat → ByteArray) (V : Nat → Nat) (N : Nat) : ∀ i, 2 ≤ (preF K V N i).length
  | 0 => by simp [preF, Lib.beBytes_length]
  | i + 1 => by
    have h1 := pre_two K V N i
    simp only [preF, List.length_append]
    omega
end Go.Proofs.YbulkbscFmt
