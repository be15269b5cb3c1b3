/-
  THE WALK OF LawS0132BRoundTrip (function 3).
-/
import Derived.Test.YbulkbscFmtPlain
import Derived.Test.YbulkbscFmtGuard
import Derived.Lib.AppendStr
import Derived.Laws.AppendOwnNone
import Derived.BigQuiet
import Derived.Deep.QuietTactic
namespace Go.Proofs.YbulkbscFmt
open Go.RowKit Go.Extern.Stop Go.Stop Go.Extern Go.Maps

set_option maxHeartbeats 400000 in
theorem rt_big1 (ko : Option Addr) (n kc : Nat) (v2 v3 : Value) (w : World) (h : 1024 < (n : Int)) :
    Calls Ybaf.prog 3 #[.slice ko n kc, v2, v3] w fun e w' => e = .returned (.bool true) ∧ Below w.heap.size w w' := by
  go_enter Ybaf.func3, Ybaf.ntmps3
  go_wp2
  go_ret
  exact ⟨rfl, Below.refl _ _⟩

set_option maxHeartbeats 400000 in
theorem rt_big2 (ko : Option Addr) (n kc : Nat) (v2 : Value) (to : Option Addr) (tn tc : Nat) (w : World) (h : (n : Int) ≤ 1024) (h2 : 1024 < (tn : Int)) :
    Calls Ybaf.prog 3 #[.slice ko n kc, v2, .slice to tn tc] w fun e w' => e = .returned (.bool true) ∧ Below w.heap.size w w' := by
  go_enter Ybaf.func3, Ybaf.ntmps3
  go_wp2
  go_ret
  exact ⟨rfl, Below.refl _ _⟩

/-- append(b, tail...), the tail nil or not. -/
theorem wpList_append_tail {P : Program} {w : World} {ops : Array Oper} {rest : List Oper} {o : Oper} {a : Act} {Q : Exit → Act → World → Prop} (hgd : o.guard = none) (s x : Operand) (t : TypeId)
    (ho : o.op = .call { callee := .builtin .append, args := #[s, x], argTypes := #[t, t] })
    (base : Nat) (e : TypeId) (i : TypeInfo) (z : Value) (ht : P.underlying t = some (.slice e)) (hi : P.info? e = some i) (hz : i.zero = some z) (hsize : i.size = 1) (hby : i.bytes = 1) (hzs : z.cells.size = 1)
    (v : Value) (n : Nat) (xs : List Value) (hs : a.eval s = v) (hown : w.ownsRow base e 1 v n xs)
    (to : Option Addr) (m c : Nat) (tb : List UInt8) (hx : a.eval x = .slice to m c) (hl : tb.length = m)
    (hsrc : (to = none ∧ m = 0 ∧ c = 0) ∨ ∃ ad, to = some ad ∧ ∀ (j : Nat) (u : Value), (tb.map fun b => Value.int .u8 b.toNat)[j]? = some u → w.cell? (ad.add j) = some u)
    (hbytes : n + m ≤ 140737488355328) (hbase : base ≤ w.heap.size)
    (h : ∀ v' w', w'.ownsRow base e 1 v' (n + m) (xs ++ tb.map fun b => Value.int .u8 b.toNat) → w.grownBy w' v.ownBlock → wpList P ops Q rest (a.put o.dst v') w') : wpList P ops Q (o :: rest) a w := by
  rcases hsrc with ⟨rfl, rfl, rfl⟩ | ⟨ad, rfl, hc⟩
  · have htb : tb = [] := List.eq_nil_of_length_eq_zero hl
    subst htb
    refine wpList_append_own_none hgd s x t ho base e i 1 ht hi v n xs hs hown hx (h v w (by simpa using hown) ⟨rfl, rfl, rfl, Nat.le_refl _, fun _ _ _ => rfl⟩)
  · exact wpList_append_own _ hgd s x t ho base e i z 1 1 ht hi hz hsize hby hzs (by decide) v n xs hs hown ad m c (tb.map fun b => Value.int .u8 b.toNat) hx (by simp [hl]) hc (bytes_one _) (by unfold maxLen; omega) (by omega) hbase (fun v' w' h1 h2 _ => h v' w' h1 h2)

/-- What the rest of the call keeps. -/
structure Fin (w wr : World) (bm n : Nat) (K : Nat → ByteArray) (V : Nat → Nat) : Prop where
  map : MapU wr bm n (mapF K V n)
  below : Below w.heap.size w wr
theorem Fin.drew {w wr : World} {bm n : Nat} {K : Nat → ByteArray} {V : Nat → Nat} (h : Fin w wr bm n K V) : Fin w wr.drew bm n K V := ⟨h.map, ⟨h.below.os, h.below.tape, h.below.output, h.below.size, h.below.block⟩⟩
theorem Fin.drewN {w wr : World} {bm n : Nat} {K : Nat → ByteArray} {V : Nat → Nat} (h : Fin w wr bm n K V) : ∀ q, Fin w (wr.drewN q) bm n K V
  | 0 => h
  | q + 1 => (h.drewN q).drew

theorem pre_cells (K : Nat → ByteArray) (V : Nat → Nat) (N i : Nat) : (Lib.byteCells (preF K V N i) ++ (Lib.byteCells (Lib.beBytes 2 (K i).size) ++ Lib.strCells (K i))) ++ Lib.byteCells (Lib.beBytes 8 (V i)) = Lib.byteCells (preF K V N (i + 1)) := by
  simp only [preF, Lib.byteCells, Lib.strCells, List.map_append, List.append_assoc]
theorem pre_step (K : Nat → ByteArray) (V : Nat → Nat) (N i : Nat) : (preF K V N i).length + 2 + (K i).size + 8 = (preF K V N (i + 1)).length := by
  have e : (K i).data.toList.length = (K i).size := Array.length_toList
  simp only [preF, List.length_append, Lib.beBytes_length, e]
  omega

theorem str_ne {a b : ByteArray} (h : ¬ a = b) : (a.toList == b.toList) = false := by
  have h1 : ¬ a.data.toList = b.data.toList := fun e => h (ByteArray.ext (Array.toList_inj.1 e))
  rw [ByteArray.toList_eq, ByteArray.toList_eq]
  exact beq_eq_false_iff_ne.2 h1

theorem zero30 (w : World) : (zeroValue 30).run Ybaf.prog w = .ok (.int .u64 0) w := by kernel_rfl

/-- m[keys[i]]. -/
theorem Fin.look {w wr : World} {bm n : Nat} {K : Nat → ByteArray} {V : Nat → Nat} (h : Fin w wr bm n K V) {i : Nat} (hi : i < n) (hk : (K i).size ≤ 1024) :
    (Instr.lookup 37 (.map (some bm)) (.string (K i)) true).run Ybaf.prog wr = .ok (.tuple #[.int .u64 (V (lastTo K i n)), .bool true]) wr := by
  have hkey := WideMaps.keyOf_string_mk (s := K i) Ybaf.underlying9 (by unfold maxLen; omega)
  obtain ⟨v, ps, hrun, hv⟩ := h.map.look_ok law9 Ybaf.underlying37 (zero30 wr) (plainElem_int Ybaf.underlying30 (by decide)) hkey
  obtain ⟨h1, h2⟩ := mapF_at K V i (.lit (.int .u64 0)) n hi
  have h2' : has (mapF K V n) (.string (K i).data.toList) = true := h2
  have h1' : (mapF K V n).atKey (.string (K i).data.toList) (.lit (.int .u64 0)) = .lit (.int .u64 (V (lastTo K i n))) := h1
  rw [h2'] at hrun
  rw [h1'] at hv
  obtain ⟨c, rfl, hc, _⟩ := plainElem_int_inv Ybaf.underlying30 hv
  have hc' := congrArg Prod.fst hc
  simp at hc'
  rw [hrun, ← hc']

set_option maxHeartbeats 4000000 in
set_option maxRecDepth 100000 in
theorem rt_main (ko : Option Addr) (n kc kb koff : Nat) (K : Nat → ByteArray) (vo : Option Addr) (nv cv vb voff : Nat) (vs : Nat → Nat) (to : Option Addr) (tn tc : Nat) (tb : List UInt8) (w : World)
    (hn : (n : Int) ≤ 1024) (hnv : (nv : Int) ≤ 9223372036854775807) (htn : (tn : Int) ≤ 1024) (htl : tb.length = tn)
    (hix : ∀ (t : Nat) (W : World), t < n → (Instr.indexAt 22 (.slice ko n kc) (.int .i64 (t : Int))).run Ybaf.prog W = .ok (.pointer (some ⟨kb, koff + t, none⟩)) W)
    (hcK : ∀ t, t < n → w.cell? ⟨kb, koff + t, none⟩ = some (.string (K t)))
    (hixV : ∀ (t : Nat) (W : World), t < nv → (Instr.indexAt 23 (.slice vo nv cv) (.int .i64 (t : Int))).run Ybaf.prog W = .ok (.pointer (some ⟨vb, voff + t, none⟩)) W)
    (hcV : ∀ t, t < nv → w.cell? ⟨vb, voff + t, none⟩ = some (.int .u64 (vs t)))
    (hvs : ∀ t, t < nv → vs t < 18446744073709551616)
    (htc : (to = none ∧ tn = 0 ∧ tc = 0) ∨ ∃ ad, to = some ad ∧ ∀ (j : Nat) (u : Value), (tb.map fun b => Value.int .u8 b.toNat)[j]? = some u → w.cell? (ad.add j) = some u) :
    Calls Ybaf.prog 3 #[.slice ko n kc, .slice vo nv cv, .slice to tn tc] w fun e w' => e = .returned (.bool true) ∧ Below w.heap.size w w' := by
  have q1 := fun (w : World) (r : Option Nat) => run_eql_map_nil (P := Ybaf.prog) w 37 9 30 r Ybaf.underlying37
  obtain ⟨i0, hi5, hz0, hz1, hz2⟩ := info_parts info5
  have HV : Hid (∀ i, i < n → valAt nv vs i < 18446744073709551616) := by
    intro i hi
    unfold valAt
    split
    · omega
    · exact hvs _ (Nat.mod_lt _ (by omega))
  have HVal : Hid (∀ (i : Nat) (W : World), (i : Int) ≤ 1000000 → Below w.heap.size w W → Calls Ybaf.prog 7 #[.slice vo nv cv, .int .i64 i] W fun e w' => e = .returned (.int .u64 (valAt nv vs i)) ∧ w' = W) := fun i W hi hb =>
    val_any vo nv cv vb voff vs i W hi hnv hixV (fun t ht => by
      have h0 := hcV t ht
      rw [hb.cell (p := ⟨vb, voff + t, none⟩) (World.block_lt_of_cell? w _ h0)]; exact h0)
  have HTail : Hid (∀ W, Below w.heap.size w W → ((to = none ∧ tn = 0 ∧ tc = 0) ∨ ∃ ad, to = some ad ∧ ∀ (j : Nat) (u : Value), (tb.map fun b => Value.int .u8 b.toNat)[j]? = some u → W.cell? (ad.add j) = some u)) := fun W hb => by
    rcases htc with h | ⟨ad, h1, h2⟩
    · exact .inl h
    · refine .inr ⟨ad, h1, fun j u hj => ?_⟩
      have h0 := h2 j u hj
      rw [hb.cell (p := ad.add j) (World.block_lt_of_cell? w _ h0)]; exact h0
  have HCK : Hid (∀ W, Below w.heap.size w W → ∀ t, t < n → W.cell? ⟨kb, koff + t, none⟩ = some (.string (K t))) := fun W hb t ht => by
    have h0 := hcK t ht
    rw [hb.cell (p := ⟨kb, koff + t, none⟩) (World.block_lt_of_cell? w _ h0)]; exact h0
  clear htc hixV hcV hvs
  have hn0 : ¬ 1024 < (n : Int) := by omega
  have htn0 : ¬ 1024 < (tn : Int) := by omega
  go_enter Ybaf.func3, Ybaf.ntmps3
  go_wp2_with fail
  go_loopw [32] (fun idx wr => ∃ i : Nat, i ≤ n ∧ idx = .int .i64 (i : Int) ∧ (∀ t, t < i → (K t).size ≤ 1024) ∧ wr = w) (fun idx _ => n - (intOf idx).toNat)
  case atStart => exact ⟨0, Nat.zero_le _, rfl, fun t ht => absurd ht (by omega), rfl⟩
  case round =>
    obtain ⟨i, hi, rfl, hsz, hw⟩ := hrel
    have hw := hw.symm
    subst hw
    by_cases hlt : i < n
    · have hx := fun W => hix i W hlt
      have hc := hcK i hlt
      by_cases hbig : 1024 < ((K i).size : Int)
      · go_wp2
        go_ret
        exact ⟨rfl, Below.refl _ _⟩
      · go_wp2
        refine ⟨⟨i + 1, by omega, by go_num, fun t ht => ?_, trivial⟩, by simp [intOf]; omega⟩
        rcases Nat.lt_or_ge t i with h1 | h1
        · exact hsz t h1
        · have : t = i := by omega
          subst this; omega
    · have ein : i = n := by omega
      subst ein
      have hKs : ∀ t, t < i → (K t).size ≤ 1024 := hsz
      have HP : Hid (∀ j, j ≤ i → (preF K (valAt nv vs) i j).length ≤ 2 + 1034 * j) := pre_len K _ i hKs
      have HKs : Hid (∀ t, t < i → (K t).size ≤ 1024) := hKs
      clear hsz hKs
      go_wp2_with fail
      refine (app16 w.heap.size 0 i (by omega) (.slice none 0 0) [] w (World.ownsRow_nil _ _ _ _) (Nat.le_refl _) (by omega)).mono ?_
      rintro e w1 ⟨v1, rfl, hown1, hb1⟩
      have HO1 : Hid (w1.ownsRow w.heap.size 5 1 v1 (preF K (valAt nv vs) i 0).length (Lib.byteCells (preF K (valAt nv vs) i 0))) := by
        rw [show (preF K (valAt nv vs) i 0).length = 0 + 2 from Lib.beBytes_length 2 i]
        exact hown1
      have HB1 : Hid (Below w.heap.size w w1) := hb1
      clear hown1 hb1
      go_wp2_with fail
      go_loopw [9, 47] (fun b idx wr => ∃ (j : Nat) (sv : Value), j ≤ i ∧ b = sv ∧ idx = .int .i64 (j : Int) ∧ wr.ownsRow w.heap.size 5 1 sv (preF K (valAt nv vs) i j).length (Lib.byteCells (preF K (valAt nv vs) i j)) ∧ Below w.heap.size w wr) (fun _ idx _ => i - (intOf idx).toNat)
      case atStart => exact ⟨0, v1, Nat.zero_le _, rfl, rfl, HO1.out, HB1.out⟩
      case round =>
        obtain ⟨j, sv, hj, hsv, rfl, hO, hB⟩ := hrel
        have hsv := hsv.symm
        subst hsv
        clear HO1 HB1
        have hbs : w.heap.size ≤ wr.heap.size := hB.size
        have HO : Hid (wr.ownsRow w.heap.size 5 1 sv (preF K (valAt nv vs) i j).length (Lib.byteCells (preF K (valAt nv vs) i j))) := hO
        have HB : Hid (Below w.heap.size w wr) := hB
        clear hO hB
        by_cases hlt2 : j < i
        · have hx := fun W => hix j W hlt2
          have hc := HCK.out wr HB.out j hlt2
          have hk := HKs.out j hlt2
          have hlen := HP.out j (by omega)
          have hki : ((K j).size : Int) ≤ 1024 := by omega
          have HL : Hid ((preF K (valAt nv vs) i j).length ≤ 2 + 1034 * j) := hlen
          have HK : Hid ((K j).size ≤ 1024) := hk
          clear hlen hk
          go_wp2_with fail
          refine (app16 w.heap.size _ (K j).size (by have := HK.out; omega) sv _ wr HO.out hbs (by have := HL.out; omega)).mono ?_
          rintro e w2 ⟨v2, rfl, hown2, hb2⟩
          have hbs2 : w.heap.size ≤ w2.heap.size := Nat.le_trans hbs hb2.size
          have HB2 : Hid (Below w.heap.size w w2) := HB.out.trans hb2
          clear hc hb2
          go_wp2_with (at_builtin; refine Lib.wpList_append_own_string _ rfl _ _ 24 9 rfl w.heap.size 5 i0 Ybaf.underlying24 Ybaf.underlying9 hi5 hz0 hz1 hz2 _ _ _ rfl hown2 (K j) rfl (by have := HL.out; have := HK.out; unfold maxLen; omega) (by have := HL.out; have := HK.out; omega) hbs2 ?_)
          intro v3 w3 hown3 hgrow3 _
          have hbs3 : w.heap.size ≤ w3.heap.size := Nat.le_trans hbs2 hgrow3.size
          have HB3 : Hid (Below w.heap.size w w3) := HB2.out.grown hgrow3 hbs2 (fun k hk => (hown2.lt k hk).1)
          have HO3 : Hid (w3.ownsRow w.heap.size 5 1 v3 ((preF K (valAt nv vs) i j).length + 2 + (K j).size) (Lib.byteCells (preF K (valAt nv vs) i j) ++ (Lib.byteCells (Lib.beBytes 2 (K j).size) ++ Lib.strCells (K j)))) := hown3
          clear hown2 hgrow3 hown3
          go_wp2_with fail
          have HB4 : Hid (Below w.heap.size w w3.drew) := ⟨HB3.out.os, HB3.out.tape, HB3.out.output, HB3.out.size, HB3.out.block⟩
          have HO4 : Hid (w3.drew.ownsRow w.heap.size 5 1 v3 ((preF K (valAt nv vs) i j).length + 2 + (K j).size) (Lib.byteCells (preF K (valAt nv vs) i j) ++ (Lib.byteCells (Lib.beBytes 2 (K j).size) ++ Lib.strCells (K j)))) := HO3.out
          have C7 := HVal.out j w3.drew (by omega) HB4.out
          have C6 := app64 w.heap.size _ (valAt nv vs j) (HV.out j hlt2) v3 _ w3.drew HO4.out hbs3 (by have := HL.out; have := HK.out; omega)
          go_region_with (first | (go_at_call 7; refine C7.mono ?_; rintro e w4 ⟨rfl, rfl⟩) | (go_at_call 6; refine C6.mono ?_; rintro e w5 ⟨v5, rfl, hown5, hb5⟩))
          all_goals
            go_wp2
            have HO5 : w5.ownsRow w.heap.size 5 1 v5 (preF K (valAt nv vs) i (j + 1)).length (Lib.byteCells (preF K (valAt nv vs) i (j + 1))) := by
              rw [← pre_step, ← pre_cells]
              simpa only [List.append_assoc] using hown5
            exact ⟨⟨j + 1, v5, by omega, rfl, by go_num, HO5, HB4.out.trans hb5⟩, by simp [intOf]; omega⟩
        · have eji : j = i := by omega
          subst eji
          clear hlt2 hcK
          have hlenP := HP.out j (Nat.le_refl _)
          have hTl := HTail.out wr HB.out
          have HTl : Hid ((to = none ∧ tn = 0 ∧ tc = 0) ∨ ∃ ad, to = some ad ∧ ∀ (j : Nat) (u : Value), (tb.map fun b => Value.int .u8 b.toNat)[j]? = some u → wr.cell? (ad.add j) = some u) := hTl
          have HLP : Hid ((preF K (valAt nv vs) j j).length ≤ 2 + 1034 * j) := hlenP
          clear hlenP hTl
          go_wp2_with (at_builtin; refine wpList_append_tail rfl _ _ 24 rfl w.heap.size 5 i0 (.int .u8 0) Ybaf.underlying24 hi5 hz0 hz1 hz2 rfl _ _ _ rfl HO.out to tn tc tb rfl htl HTl.out (by have := HLP.out; omega) hbs ?_)
          intro v6 w6 hown6 hgrow6
          have HB6 : Hid (Below w.heap.size w w6) := HB.out.grown hgrow6 hbs (fun k hk => (HO.out.lt k hk).1)
          have hbs6 : w.heap.size ≤ w6.heap.size := Nat.le_trans hbs hgrow6.size
          obtain ⟨ao, c6, hv6⟩ : ∃ ao c6, v6 = .slice ao ((preF K (valAt nv vs) j j).length + tn) c6 := by
            rcases hown6.2 with ⟨h0, h1⟩ | ⟨g', c', _, hv, _⟩
            · have := pre_two K (valAt nv vs) j j
              omega
            · exact ⟨_, c', hv⟩
          rw [hv6] at hown6
          have hown6' : w6.ownsRow w.heap.size 5 1 (.slice ao ((preF K (valAt nv vs) j j).length + tn) c6) ((preF K (valAt nv vs) j j).length + tn) ((preF K (valAt nv vs) j j ++ tb).map fun b => Value.int .u8 b.toNat) := by
            rw [List.map_append]; exact hown6
          obtain ⟨g, o, c7, hR⟩ := rd_new (s := ⟨#[109, 97, 108, 102, 111, 114, 109, 101, 100]⟩) hown6' (by rw [List.length_append, htl]) (by have := pre_two K (valAt nv vs) j j; omega)
          obtain ⟨L, hL⟩ : ∃ L, (preF K (valAt nv vs) j j).length + tn = L := ⟨_, rfl⟩
          rw [hL] at hR hv6
          rw [pre_all] at hR
          have HR := (show Hid (Rd ((w6.alloc (.cells #[.string ⟨#[109, 97, 108, 102, 111, 114, 109, 101, 100]⟩] 49)).alloc (.cells #[.slice ao L c6, .nilIface, .iface 47 (.pointer (some ⟨w6.heap.size, 0, none⟩))] 46)) (w6.heap.size + 1) (Lib.beBytes 2 j ++ entF K (valAt nv vs) tb j 0) g o c7) from hR)
          clear hown6 hown6' hgrow6 hR hL HLP HTl HO
          rw [hv6]
          clear hv6
          go_wp2_with fail
          refine (new_err _ _).mono ?_
          rintro e w7 ⟨rfl, rfl⟩
          go_wp2_with fail
          refine (new_dec ao L c6 _ _).mono ?_
          rintro e w7 ⟨rfl, rfl⟩
          go_wp2_with fail
          refine (counts_exact (w6.heap.size + 1) j K (valAt nv vs) tb _ ⟨_, _, _, HR.out⟩ (by omega) HKs.out HV.out (by omega)).mono ?_
          rintro e w8 ⟨bm, rfl, hM, ⟨g8, o8, c8, hR8⟩, hg, hbm⟩
          have hFin : Fin w w8 bm j K (valAt nv vs) := ⟨hM, ((HB6.out.alloc hbs6 _).alloc (by simp; omega) _).grown hg (by simp; omega) (fun k hk => by cases hk; exact Nat.le_succ_of_le hbs6)⟩
          have hLen := len_any (w6.heap.size + 1) _ c8 _ _ w8 hR8.dec
          rw [htl] at hLen
          have HF : Hid (Fin w w8 bm j K (valAt nv vs)) := hFin
          clear hM hR8 hg hbm hFin HR HB6
          have htt : ((tn : Int) != (tn : Int)) = false := by simp
          go_wp2_with fail
          refine hLen.mono ?_
          rintro e w9 ⟨rfl, rfl⟩
          go_wp2_with fail
          clear htt hLen
          have hs0 := HF.out
          obtain ⟨wn, hwn⟩ : ∃ wn : World, wn = w9 := ⟨_, rfl⟩
          rw [← hwn] at HF ⊢
          clear hwn hs0
          go_loopw [14, 87] (fun dist idx wr => ∃ i : Nat, i ≤ j ∧ dist = .int .i64 (Maps.size (mapF K (valAt nv vs) i) : Int) ∧ idx = .int .i64 (i : Int) ∧ Fin w wr bm j K (valAt nv vs)) (fun _ idx _ => j - (intOf idx).toNat)
          case atStart => exact ⟨0, Nat.zero_le _, rfl, rfl, HF.out⟩
          case round =>
            obtain ⟨i, hi, rfl, rfl, hF⟩ := hrel
            clear HF
            have HF : Hid (Fin w wr bm j K (valAt nv vs)) := hF
            clear hF
            have hsz := mapF_size_le K (valAt nv vs) i
            have hszI : ((Maps.size (mapF K (valAt nv vs) i) : Nat) : Int) ≤ 1024 := by omega
            clear hsz
            by_cases hij : i < j
            · have hijI : (i : Int) < j := by omega
              go_wp2_with fail
              obtain ⟨wo, hwo⟩ : ∃ wo : World, wo = wr := ⟨_, rfl⟩
              rw [← hwo] at HF ⊢
              clear hwo
              go_loopw [16, 17] (fun first idx wr => ∃ t : Nat, t ≤ i ∧ first = .bool true ∧ idx = .int .i64 (t : Int) ∧ (∀ s, s < t → ¬ K s = K i) ∧ Fin w wr bm j K (valAt nv vs)) (fun _ idx _ => i - (intOf idx).toNat)
              case atStart => exact ⟨0, Nat.zero_le _, rfl, rfl, fun s hs => absurd hs (by omega), HF.out⟩
              case round =>
                obtain ⟨t, ht, rfl, rfl, hno, hF⟩ := hrel
                clear HF
                have HF : Hid (Fin w wr bm j K (valAt nv vs)) := hF
                have HNo : Hid (∀ s, s < t → ¬ K s = K i) := hno
                clear hF hno
                by_cases hti : t < i
                · have hx1 := fun W => hix t W (by omega)
                  have hx2 := fun W => hix i W hij
                  have k1 := HCK.out wr HF.out.below t (by omega)
                  have k2 := HCK.out wr HF.out.below i hij
                  have htI : (t : Int) < i := by omega
                  by_cases hk : K t = K i
                  · have hb : ((K t).toList == (K i).toList) = true := by rw [hk]; simp
                    have HS : Hid (Maps.size (mapF K (valAt nv vs) (i + 1)) = Maps.size (mapF K (valAt nv vs) i)) := mapF_size_old K _ hti hk
                    clear hk
                    go_wp2_with fail
                    go_quiet (fail)
                    have HZ : Hid (Fin w (wr.drewN nq) bm j K (valAt nv vs)) := HF.out.drewN nq
                    clear hx1 hx2 k1 k2 hb
                    go_wp2_with fail
                    obtain ⟨wp, hwp⟩ : ∃ wp : World, wp = wr.drewN nq := ⟨_, rfl⟩
                    rw [← hwp] at HZ ⊢
                    clear hwp
                    go_loopw [18, 19] (fun last idx wr => ∃ t : Nat, i + 1 ≤ t ∧ t ≤ j ∧ last = .int .i64 (lastTo K i t : Int) ∧ idx = .int .i64 (t : Int) ∧ Fin w wr bm j K (valAt nv vs)) (fun _ idx _ => j - (intOf idx).toNat)
                    case atStart => exact ⟨i + 1, Nat.le_refl _, by omega, by rw [lastTo_first], by go_num, HZ.out⟩
                    case round =>
                      obtain ⟨t, ht1, ht2, rfl, rfl, hZ⟩ := hrel
                      clear HZ
                      have HZ : Hid (Fin w wr bm j K (valAt nv vs)) := hZ
                      clear hZ
                      by_cases htj : t < j
                      · have hx1 := fun W => hix t W htj
                        have hx2 := fun W => hix i W hij
                        have k1 := HCK.out wr HZ.out.below t htj
                        have k2 := HCK.out wr HZ.out.below i hij
                        have htI : (t : Int) < j := by omega
                        by_cases hk : K t = K i
                        · have hb : ((K t).toList == (K i).toList) = true := by rw [hk]; simp
                          have HH : Hid (lastTo K i (t + 1) = t) := lastTo_hit K (by omega) hk
                          clear hk
                          go_wp2_with fail
                          go_quiet (fail)
                          go_wp2
                          exact ⟨⟨t + 1, by omega, by omega, by rw [HH.out], by go_num, HZ.out.drewN nq⟩, by simp [intOf]; omega⟩
                        · have hb : ((K t).toList == (K i).toList) = false := str_ne hk
                          have HH : Hid (lastTo K i (t + 1) = lastTo K i t) := lastTo_miss K hk
                          clear hk
                          go_wp2_with fail
                          go_quiet (fail)
                          go_wp2
                          exact ⟨⟨t + 1, by omega, by omega, by rw [HH.out], by go_num, HZ.out.drewN nq⟩, by simp [intOf]; omega⟩
                      · have etj : t = j := by omega
                        subst etj
                        have hx2 := fun W => hix i W hij
                        have k2 := HCK.out wr HZ.out.below i hij
                        have hrun := HZ.out.look hij (HKs.out i hij)
                        have hvv : ((valAt nv vs (lastTo K i t) : Int) != (valAt nv vs (lastTo K i t) : Int)) = false := by simp
                        have hlt9 := lastTo_lt K i t hij
                        have C7 := HVal.out (lastTo K i t) wr (by omega) HZ.out.below
                        go_wp2_with fail
                        refine C7.mono ?_
                        rintro e w9 ⟨rfl, rfl⟩
                        go_wp2
                        exact ⟨⟨i + 1, by omega, by rw [HS.out], by go_num, HZ.out⟩, by simp [intOf]; omega⟩
                  · have hb : ((K t).toList == (K i).toList) = false := str_ne hk
                    have HK' : Hid (¬ K t = K i) := hk
                    clear hk
                    go_wp2_with fail
                    go_quiet (fail)
                    go_wp2
                    refine ⟨⟨t + 1, by omega, rfl, by go_num, fun s hs => ?_, HF.out.drewN nq⟩, by simp [intOf]; omega⟩
                    rcases Nat.lt_or_ge s t with h1 | h1
                    · exact HNo.out s h1
                    · have : s = t := by omega
                      subst this
                      exact HK'.out
                · have eti : t = i := by omega
                  have HS : Hid (Maps.size (mapF K (valAt nv vs) (i + 1)) = Maps.size (mapF K (valAt nv vs) i) + 1) := mapF_size_new K _ (fun s hs => HNo.out s (by omega))
                  have HZ : Hid (Fin w wr bm j K (valAt nv vs)) := HF.out
                  clear HNo HF
                  go_wp2_with fail
                  obtain ⟨wp, hwp⟩ : ∃ wp : World, wp = wr := ⟨_, rfl⟩
                  rw [← hwp] at HZ ⊢
                  clear hwp
                  go_loopw [18, 19] (fun last idx wr => ∃ t : Nat, i + 1 ≤ t ∧ t ≤ j ∧ last = .int .i64 (lastTo K i t : Int) ∧ idx = .int .i64 (t : Int) ∧ Fin w wr bm j K (valAt nv vs)) (fun _ idx _ => j - (intOf idx).toNat)
                  case atStart => exact ⟨i + 1, Nat.le_refl _, by omega, by rw [lastTo_first], by go_num, HZ.out⟩
                  case round =>
                    obtain ⟨t, ht1, ht2, rfl, rfl, hZ⟩ := hrel
                    clear HZ
                    have HZ : Hid (Fin w wr bm j K (valAt nv vs)) := hZ
                    clear hZ
                    by_cases htj : t < j
                    · have hx1 := fun W => hix t W htj
                      have hx2 := fun W => hix i W hij
                      have k1 := HCK.out wr HZ.out.below t htj
                      have k2 := HCK.out wr HZ.out.below i hij
                      have htI : (t : Int) < j := by omega
                      by_cases hk : K t = K i
                      · have hb : ((K t).toList == (K i).toList) = true := by rw [hk]; simp
                        have HH : Hid (lastTo K i (t + 1) = t) := lastTo_hit K (by omega) hk
                        clear hk
                        go_wp2_with fail
                        go_quiet (fail)
                        go_wp2
                        exact ⟨⟨t + 1, by omega, by omega, by rw [HH.out], by go_num, HZ.out.drewN nq⟩, by simp [intOf]; omega⟩
                      · have hb : ((K t).toList == (K i).toList) = false := str_ne hk
                        have HH : Hid (lastTo K i (t + 1) = lastTo K i t) := lastTo_miss K hk
                        clear hk
                        go_wp2_with fail
                        go_quiet (fail)
                        go_wp2
                        exact ⟨⟨t + 1, by omega, by omega, by rw [HH.out], by go_num, HZ.out.drewN nq⟩, by simp [intOf]; omega⟩
                    · have etj : t = j := by omega
                      subst etj
                      have hx2 := fun W => hix i W hij
                      have k2 := HCK.out wr HZ.out.below i hij
                      have hrun := HZ.out.look hij (HKs.out i hij)
                      have hvv : ((valAt nv vs (lastTo K i t) : Int) != (valAt nv vs (lastTo K i t) : Int)) = false := by simp
                      have hlt9 := lastTo_lt K i t hij
                      have C7 := HVal.out (lastTo K i t) wr (by omega) HZ.out.below
                      go_wp2_with fail
                      refine C7.mono ?_
                      rintro e w9 ⟨rfl, rfl⟩
                      go_wp2
                      exact ⟨⟨i + 1, by omega, by rw [HS.out]; go_num, by go_num, HZ.out⟩, by simp [intOf]; omega⟩
            · have eij : i = j := by omega
              subst eij
              have hlen := HF.out.map.len Ybaf.underlying37
              go_wp2
              go_ret
              exact ⟨rfl, HF.out.below⟩
end Go.Proofs.YbulkbscFmt
