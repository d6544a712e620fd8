/- FnSameEntryTellsEveryChange: the walk where v is not nil. -/
import Derived.Test.Qxb6623304aClone
import Derived.Laws.CopyOwn
import Derived.OpenShut
namespace Go.Proofs.Qxb6623304a
open Go.RowKit
set_option linter.unusedVariables false

theorem same_refl (t : Int) (l : List UInt8) : sameB t t l l = true := by simp [sameB]
theorem same_tag {t u : Int} (l : List UInt8) (h : t ≠ u) : sameB t u l l = false := by simp [sameB, h]
theorem same_list {t : Int} {l m : List UInt8} (h : l ≠ m) : sameB t t l m = false := by simp [sameB, h]

theorem one_cells (l : List UInt8) : ∀ u ∈ cellsOf l, u.oneCell' = true := by
  intro u hu
  obtain ⟨_, _, rfl⟩ := List.mem_map.1 hu
  rfl
theorem row_nil (w : World) : Row w none 0 0 [] := ⟨rfl, .inl ⟨rfl, rfl, rfl⟩⟩
theorem row_empty (w : World) : Row (w.alloc (.cells #[] 5)) (some ⟨w.heap.size, 0, none⟩) 0 0 [] := ⟨rfl, .inr ⟨_, rfl, by simp, Nat.le_refl _, fun j hj => by cases hj⟩⟩
theorem xor_tag (t d : Int) (ht1 : 0 ≤ t) (ht2 : t < 18446744073709551616) (hd1 : 0 ≤ d) (hd2 : d < 18446744073709551616) (h : d ≠ 0) : t ≠ bits .xor .u64 t d := by
  rw [u64_xor t d ht1 ht2 hd1 hd2]
  intro e
  obtain ⟨a, rfl⟩ := Int.eq_ofNat_of_zero_le ht1
  obtain ⟨b, rfl⟩ := Int.eq_ofNat_of_zero_le hd1
  have e2 : a = a ^^^ b := by simpa using Int.ofNat.inj e
  have e3 : a ^^^ a = a ^^^ (a ^^^ b) := by rw [← e2]
  rw [Nat.xor_self, ← Nat.xor_assoc, Nat.xor_self, Nat.zero_xor] at e3
  omega
theorem xor_byte (a b : UInt8) : bits .xor .u8 (a.toNat : Int) (b.toNat : Int) = ((a ^^^ b).toNat : Int) := by
  rw [u8_xor_nat _ _ a.toNat_lt b.toNat_lt, UInt8.toNat_xor]
theorem xor_ne (a b : UInt8) (h : b ≠ 0) : a ^^^ b ≠ a := by
  intro e
  have e3 : a ^^^ (a ^^^ b) = a ^^^ a := by rw [e]
  rw [← UInt8.xor_assoc, UInt8.xor_self, UInt8.zero_xor] at e3
  exact h e3
theorem cells_set (l : List UInt8) (k : Nat) (y : UInt8) : (cellsOf l).set k (.int .u8 (y.toNat : Int)) = cellsOf (l.set k y) := by
  unfold cellsOf; rw [List.map_set]
theorem set_ne (l : List UInt8) (k : Nat) (y : UInt8) (hk : k < l.length) (h : y ≠ l[k]) : l ≠ l.set k y := by
  intro e
  have h2 : l[k]? = (l.set k y)[k]? := by rw [← e]
  rw [List.getElem?_set_self hk, List.getElem?_eq_getElem hk] at h2
  exact h (Option.some.inj h2).symm
theorem snoc_ne (l : List UInt8) (y : UInt8) : l ≠ l ++ [y] := by
  intro e
  have := congrArg List.length e
  simp at this
theorem cells_end (xs : List Value) (l : List UInt8) (n : Nat) (y : UInt8) (hx : xs.length = n + 1) (hl : n = l.length) (h : xs.take n = cellsOf (l.take n)) : xs.set n (.int .u8 (y.toNat : Int)) = cellsOf (l ++ [y]) := by
  have e : xs.set n (.int .u8 (y.toNat : Int)) = (xs.set n (.int .u8 (y.toNat : Int))).take (n + 1) := by rw [List.take_of_length_le (by simp; omega)]
  rw [e, take_set_succ _ _ _ (by omega), h, List.take_of_length_le (by omega)]
  simp [cellsOf]
theorem info5s : (Try.prog.info? 5).map (·.size) = some 1 := by kernel_rfl
theorem cell_block {w : World} {a : Addr} {v : Value} (h : w.cell? a = some v) : a.block < w.heap.size := by
  rcases Nat.lt_or_ge a.block w.heap.size with h' | h'
  · exact h'
  · simp [World.cell?, Array.getElem?_eq_none h'] at h
theorem made_row {w : World} {g n : Nat} {xs : List Value} (h : w.ownsRow g 5 1 (.slice (some ⟨g, 0, none⟩) n n) n xs) : w.heap[g]? = some (.cells xs.toArray 5 (0, 0)) := by
  rcases h.2 with ⟨h', _⟩ | ⟨g', cap', cur, h', h1, h2, h3, h4, h5, h6⟩
  · simp at h'
  · simp only [Value.slice.injEq, Option.some.injEq, Addr.mk.injEq, and_true, true_and] at h'
    obtain ⟨rfl, rfl⟩ := h'
    rw [h2]
    have : cur.toList = xs := by rw [← h6, List.take_of_length_le (by simp; omega)]
    rw [← this]
theorem splice_all (cur cs : List Value) (h : cs.length = cur.length) : splice cur 0 cs = cs := by
  unfold splice; rw [List.drop_eq_nil_of_le (by omega)]; simp
theorem own_of_row {w : World} {g n : Nat} {l : List UInt8} (hn : n = l.length) (hm : n ≤ maxLen) (h : w.heap[g]? = some (.cells (cellsOf l).toArray 5 (0, 0))) : w.ownsRow g 5 1 (.slice (some ⟨g, 0, none⟩) n n) n (cellsOf l) :=
  ⟨by rw [cellsOf_length]; omega, .inr ⟨g, n, _, rfl, Nat.le_refl _, h, Nat.le_refl _, hm, by simp [cellsOf_length]; omega, by rw [List.take_of_length_le (by simp [cellsOf_length]; omega)]⟩⟩

set_option maxRecDepth 100000 in
set_option maxHeartbeats 3200000 in
theorem big (x : Addr) (n cap : Nat) (l : List UInt8) (t d i : Int) (xu eb : UInt8) (w : World) (ht1 : 0 ≤ t) (ht2 : t < 18446744073709551616) (hd1 : 0 ≤ d) (hd2 : d < 18446744073709551616) (hn : n ≤ 1048576) (hl : n = l.length) (hsrc : ∀ j (hj : j < l.length), w.cell? (x.add j) = some (.int .u8 (l[j].toNat : Int))) :
    Calls Try.prog 3 #[.slice (some x) n cap, .int .u64 t, .int .u64 d, .int .i64 i, .int .u8 (xu.toNat : Int), .int .u8 (eb.toNat : Int)] w fun e w' => e = .returned (.bool true) ∧ Below w.heap.size w w' := by
  have hmx : n ≤ maxLen := by unfold maxLen; omega
  have hd : decide ((n : Int) ≤ 1048576) = true := decide_eq_true (by omega)
  have hnil := fun (W : World) => run_neq_slice_nil_any (P := Try.prog) W 22 5 (some x) n cap 0 0 Try.underlying22
  obtain ⟨i0, hi, hz0, hz1, hz2⟩ := info_parts info5
  have HL : Hid (n = l.length) := hl
  have hcl : (cellsOf l).length = Nat.min n n := by rw [cellsOf_length]; simp; omega
  have HC : Hid ((cellsOf l).length = Nat.min n n) := hcl
  have HSRC : Hid (∀ j v, (cellsOf l)[j]? = some v → w.cell? (x.add j) = some v) := by
    intro j v hj
    have hj' : j < l.length := by have := (List.getElem?_eq_some_iff.1 hj).1; rwa [cellsOf_length] at this
    rw [cellsOf_at l j hj'] at hj
    rw [hsrc j hj']; exact hj
  clear hl hcl hsrc
  go_enter Try.func3, Try.ntmps3
  go_wp2_with (first
    | (go_at_call 4; refine (bytes_any (some x) n cap t d i _ _ _ hmx).mono ?_; rintro e w' ⟨rfl, rfl⟩)
    | (at_make; refine wpList_make_full _ rfl _ _ 22 rfl w.heap.size 5 i0 (.int .u8 0) 1 Try.underlying22 hi hz0 hz1 _ _ _ _ n rfl rfl rfl rfl ?b2 ?b3 (Nat.le_refl _) ?_))
  case b2 => rw [hz2]; omega
  case b3 => exact hmx
  intro w1 hown0 hgrow0
  have hb0 : Below w.heap.size w w1 := (Below.refl _ _).grown hgrow0 (Nat.le_refl _) (fun k h => by cases h)
  obtain ⟨mc, hmc⟩ : ∃ mc, w1.ownsRow w.heap.size 5 1 (.slice (some ⟨w.heap.size, 0, none⟩) n n) n mc := ⟨_, hown0⟩
  clear hgrow0 hnil hown0
  have hrow0 := made_row hmc
  have hlen0 : Hid (mc.length = n) := by have := hmc.1; unfold Hid; omega
  clear hmc
  go_wp2_with (refine wpList_copy_splice rfl (.tmp 34) (.tmp 35) 22 22 rfl 5 Try.underlying22 info5s _ _ _ _ _ _ rfl rfl w.heap.size 0 _ 5 hrow0 (cellsOf l) HC.out ?c1 ?c2 (one_cells l) w.heap.size w hb0 (Nat.le_refl _) ?_)
  case c1 =>
    intro _ j v hj
    have h := HSRC.out j v hj
    rw [hb0.cell (p := x.add j) (cell_block h)]; exact h
  case c2 => have h0 := cellsOf_length l; have h1 := HL.out; have h2 := hlen0.out; omega
  intro w2 HG hB
  have hown : w2.ownsRow w.heap.size 5 1 (.slice (some ⟨w.heap.size, 0, none⟩) n n) n (cellsOf l) :=
    own_of_row HL.out hmx (by have h := HG.out; rw [splice_all mc (cellsOf l) (by have h0 := cellsOf_length l; have h1 := HL.out; have h2 := hlen0.out; omega)] at h; exact h)
  clear HG hrow0 hlen0 hb0 HC HSRC w1 mc
  go_wp2_with fail
  refine (clone_some w.heap.size n n l _ (row_of_own hown) hn).mono ?_
  rintro e w3 ⟨rfl, hown3, hb3⟩
  have r3 := row_of_own hown3
  replace hown := own_below hown hb3
  replace hB := hB.trans (hb3.mono hB.size)
  clear hb3 hown3
  go_wp2_with fail
  refine (zzSame_any _ _ _ _ _ _ l l t t _ (row_of_own hown) r3).mono ?_
  rintro e w4 ⟨rfl, hb4⟩
  rw [same_refl]
  replace hown := own_below hown hb4
  replace hB := hB.trans (hb4.mono hB.size)
  clear hb4 r3
  by_cases hn0 : n ≤ 0
  · have L0 : Hid (sameB t t l [] = true) := by
      have : l = [] := List.eq_nil_of_length_eq_zero (by have := HL.out; omega)
      unfold Hid; rw [this]; exact same_refl _ _
    have hq : ((n : Int) == 0) = true := beq_iff_eq.2 (by omega)
    go_wp2_with fail
    refine (zzSame_any _ _ _ _ _ _ l [] t t _ (row_of_own hown) (row_nil _)).mono ?_
    rintro e w5 ⟨rfl, hb5⟩
    rw [L0.out]
    replace hown := own_below hown hb5
    replace hB := hB.trans (hb5.mono hB.size)
    clear hb5
    go_wp2_with fail
    have hAl : Below w5.heap.size w5 (w5.alloc (.cells #[] 5)) := (Below.refl _ _).alloc (Nat.le_refl _) _
    replace hown := own_below hown hAl
    replace hB := hB.trans (hAl.mono hB.size)
    clear hAl
    refine (zzSame_any _ _ _ _ _ _ l [] t t _ (row_of_own hown) (row_empty _)).mono ?_
    rintro e w6 ⟨rfl, hb6⟩
    rw [L0.out]
    replace hown := own_below hown hb6
    replace hB := hB.trans (hb6.mono hB.size)
    clear hb6
    clear L0
    by_cases hdd : d = 0
    · have hdq : (d != 0) = false := by simpa using hdd
      clear hdd
      by_cases hi0 : i < 0
      · have hi1 : ¬ 0 ≤ i := by omega
        have G0 : w.heap.size < w6.heap.size := (hown.lt _ rfl).2
        go_wp2_with (at_make; refine wpList_make_full _ rfl _ _ 22 rfl w6.heap.size 5 i0 (.int .u8 0) 1 Try.underlying22 hi hz0 hz1 _ _ _ _ (n + 1) rfl rfl (by omega) (by omega) ?b2 ?b3 (Nat.le_refl _) ?_)
        case b2 => first | (rw [hz2]; omega) | omega
        case b3 => unfold maxLen; omega
        intro wm hownm hgrowm
        have hbm : Below w6.heap.size w6 wm := (Below.refl _ _).grown hgrowm (Nat.le_refl _) (fun k h => by cases h)
        clear hgrowm
        have HCL : Hid (∀ j (hj : j < l.length), w6.cell? ⟨w.heap.size, j, none⟩ = some (.int .u8 (l[j].toNat : Int))) := fun j hj => by
          rw [hown.cellAt j (by have := HL.out; omega), cellsOf_at l j hj]
        go_wp2
        go_loopw [17] (fun kk wr => ∃ (k : Nat) (xs : List Value), k ≤ n ∧ kk = .int .i64 k ∧ wr.ownsRow w6.heap.size 5 1 (.slice (some ⟨w6.heap.size, 0, none⟩) (n + 1) (n + 1)) (n + 1) xs ∧ Hid (xs.take k = cellsOf (l.take k)) ∧ Below w6.heap.size w6 wr) (fun kk _ => n - (intOf kk).toNat)
        case atStart => exact ⟨0, _, Nat.zero_le _, rfl, hownm, rfl, hbm⟩
        case round =>
          clear hownm hbm wm
          obtain ⟨k, xs, hk, rfl, hownl, HT, hnx⟩ := hrel
          by_cases hlt2 : (k : Int) < (n : Int)
          · omega
          · obtain rfl : k = n := by omega
            obtain ⟨ux, cx⟩ : ∃ u, wr.cell? ⟨w6.heap.size, k, none⟩ = some u := ⟨xs[k]'(by have := hownl.1; omega), by rw [hownl.cellAt k (by omega)]; exact List.getElem?_eq_getElem _⟩
            have fz := hownl.frozenAt k
            have R := (hownl.stored k (.int .u8 (eb.toNat : Int))).1
            rw [cells_end xs l k eb (by have := hownl.1; omega) HL.out HT.out] at R
            have hb2 : Below w6.heap.size w6 (wr.setCell ⟨w6.heap.size, k, none⟩ (.int .u8 (eb.toNat : Int))) := hnx.setCell (Nat.le_refl _) _
            replace hown := own_below hown hb2
            replace hB := hB.trans (hb2.mono hB.size)
            clear HT hownl hb2 hnx
            go_wp2_with fail
            refine (zzSame_any _ _ _ _ _ _ l _ t t _ (row_of_own hown) (row_of_own R)).mono ?_
            rintro e w12 ⟨rfl, hb12⟩
            rw [same_list (snoc_ne l eb)]
            replace R := own_below R hb12
            replace hown := own_below hown hb12
            replace hB := hB.trans (hb12.mono hB.size)
            clear hb12
            go_wp2_with fail
            refine (zzSame_any _ _ _ _ _ _ _ l t t _ (row_of_own R) (row_of_own hown)).mono ?_
            rintro e w13 ⟨rfl, hb13⟩
            rw [same_list (snoc_ne l eb).symm]
            replace hB := hB.trans (hb13.mono hB.size)
            clear hb13
            go_wp2
            go_ret
            exact ⟨rfl, hB⟩
      obtain ⟨k, rfl⟩ := Int.eq_ofNat_of_zero_le (show 0 ≤ i by omega)
      clear hi0
      by_cases hi2 : (n : Int) ≤ (k : Int)
      · have hi3 : ¬ (k : Int) < (n : Int) := by omega
        have G0 : w.heap.size < w6.heap.size := (hown.lt _ rfl).2
        go_wp2_with (at_make; refine wpList_make_full _ rfl _ _ 22 rfl w6.heap.size 5 i0 (.int .u8 0) 1 Try.underlying22 hi hz0 hz1 _ _ _ _ (n + 1) rfl rfl (by omega) (by omega) ?b2 ?b3 (Nat.le_refl _) ?_)
        case b2 => first | (rw [hz2]; omega) | omega
        case b3 => unfold maxLen; omega
        intro wm hownm hgrowm
        have hbm : Below w6.heap.size w6 wm := (Below.refl _ _).grown hgrowm (Nat.le_refl _) (fun k h => by cases h)
        clear hgrowm
        have HCL : Hid (∀ j (hj : j < l.length), w6.cell? ⟨w.heap.size, j, none⟩ = some (.int .u8 (l[j].toNat : Int))) := fun j hj => by
          rw [hown.cellAt j (by have := HL.out; omega), cellsOf_at l j hj]
        go_wp2
        go_loopw [17] (fun kk wr => ∃ (k : Nat) (xs : List Value), k ≤ n ∧ kk = .int .i64 k ∧ wr.ownsRow w6.heap.size 5 1 (.slice (some ⟨w6.heap.size, 0, none⟩) (n + 1) (n + 1)) (n + 1) xs ∧ Hid (xs.take k = cellsOf (l.take k)) ∧ Below w6.heap.size w6 wr) (fun kk _ => n - (intOf kk).toNat)
        case atStart => exact ⟨0, _, Nat.zero_le _, rfl, hownm, rfl, hbm⟩
        case round =>
          clear hownm hbm wm
          obtain ⟨k, xs, hk, rfl, hownl, HT, hnx⟩ := hrel
          by_cases hlt2 : (k : Int) < (n : Int)
          · omega
          · obtain rfl : k = n := by omega
            obtain ⟨ux, cx⟩ : ∃ u, wr.cell? ⟨w6.heap.size, k, none⟩ = some u := ⟨xs[k]'(by have := hownl.1; omega), by rw [hownl.cellAt k (by omega)]; exact List.getElem?_eq_getElem _⟩
            have fz := hownl.frozenAt k
            have R := (hownl.stored k (.int .u8 (eb.toNat : Int))).1
            rw [cells_end xs l k eb (by have := hownl.1; omega) HL.out HT.out] at R
            have hb2 : Below w6.heap.size w6 (wr.setCell ⟨w6.heap.size, k, none⟩ (.int .u8 (eb.toNat : Int))) := hnx.setCell (Nat.le_refl _) _
            replace hown := own_below hown hb2
            replace hB := hB.trans (hb2.mono hB.size)
            clear HT hownl hb2 hnx
            go_wp2_with fail
            refine (zzSame_any _ _ _ _ _ _ l _ t t _ (row_of_own hown) (row_of_own R)).mono ?_
            rintro e w12 ⟨rfl, hb12⟩
            rw [same_list (snoc_ne l eb)]
            replace R := own_below R hb12
            replace hown := own_below hown hb12
            replace hB := hB.trans (hb12.mono hB.size)
            clear hb12
            go_wp2_with fail
            refine (zzSame_any _ _ _ _ _ _ _ l t t _ (row_of_own R) (row_of_own hown)).mono ?_
            rintro e w13 ⟨rfl, hb13⟩
            rw [same_list (snoc_ne l eb).symm]
            replace hB := hB.trans (hb13.mono hB.size)
            clear hb13
            go_wp2
            go_ret
            exact ⟨rfl, hB⟩
      omega
    · have HX : Hid (t ≠ bits .xor .u64 t d) := xor_tag t d ht1 ht2 hd1 hd2 hdd
      have hdq : (d != 0) = true := bne_iff_ne.2 hdd
      clear hdd
      go_wp2_with fail
      refine (zzSame_any _ _ _ _ _ _ l l t _ _ (row_of_own hown) (row_of_own hown)).mono ?_
      rintro e w7 ⟨rfl, hb7⟩
      rw [same_tag l HX.out]
      replace hown := own_below hown hb7
      replace hB := hB.trans (hb7.mono hB.size)
      clear hb7
      go_wp2_with fail
      refine (zzSame_any _ _ _ _ _ _ l l _ t _ (row_of_own hown) (row_of_own hown)).mono ?_
      rintro e w8 ⟨rfl, hb8⟩
      rw [same_tag l HX.out.symm]
      replace hown := own_below hown hb8
      replace hB := hB.trans (hb8.mono hB.size)
      clear hb8
      by_cases hi0 : i < 0
      · have hi1 : ¬ 0 ≤ i := by omega
        have G0 : w.heap.size < w8.heap.size := (hown.lt _ rfl).2
        go_wp2_with (at_make; refine wpList_make_full _ rfl _ _ 22 rfl w8.heap.size 5 i0 (.int .u8 0) 1 Try.underlying22 hi hz0 hz1 _ _ _ _ (n + 1) rfl rfl (by omega) (by omega) ?b2 ?b3 (Nat.le_refl _) ?_)
        case b2 => first | (rw [hz2]; omega) | omega
        case b3 => unfold maxLen; omega
        intro wm hownm hgrowm
        have hbm : Below w8.heap.size w8 wm := (Below.refl _ _).grown hgrowm (Nat.le_refl _) (fun k h => by cases h)
        clear hgrowm
        have HCL : Hid (∀ j (hj : j < l.length), w8.cell? ⟨w.heap.size, j, none⟩ = some (.int .u8 (l[j].toNat : Int))) := fun j hj => by
          rw [hown.cellAt j (by have := HL.out; omega), cellsOf_at l j hj]
        go_wp2
        go_loopw [17] (fun kk wr => ∃ (k : Nat) (xs : List Value), k ≤ n ∧ kk = .int .i64 k ∧ wr.ownsRow w8.heap.size 5 1 (.slice (some ⟨w8.heap.size, 0, none⟩) (n + 1) (n + 1)) (n + 1) xs ∧ Hid (xs.take k = cellsOf (l.take k)) ∧ Below w8.heap.size w8 wr) (fun kk _ => n - (intOf kk).toNat)
        case atStart => exact ⟨0, _, Nat.zero_le _, rfl, hownm, rfl, hbm⟩
        case round =>
          clear hownm hbm wm
          obtain ⟨k, xs, hk, rfl, hownl, HT, hnx⟩ := hrel
          by_cases hlt2 : (k : Int) < (n : Int)
          · omega
          · obtain rfl : k = n := by omega
            obtain ⟨ux, cx⟩ : ∃ u, wr.cell? ⟨w8.heap.size, k, none⟩ = some u := ⟨xs[k]'(by have := hownl.1; omega), by rw [hownl.cellAt k (by omega)]; exact List.getElem?_eq_getElem _⟩
            have fz := hownl.frozenAt k
            have R := (hownl.stored k (.int .u8 (eb.toNat : Int))).1
            rw [cells_end xs l k eb (by have := hownl.1; omega) HL.out HT.out] at R
            have hb2 : Below w8.heap.size w8 (wr.setCell ⟨w8.heap.size, k, none⟩ (.int .u8 (eb.toNat : Int))) := hnx.setCell (Nat.le_refl _) _
            replace hown := own_below hown hb2
            replace hB := hB.trans (hb2.mono hB.size)
            clear HT hownl hb2 hnx
            go_wp2_with fail
            refine (zzSame_any _ _ _ _ _ _ l _ t t _ (row_of_own hown) (row_of_own R)).mono ?_
            rintro e w12 ⟨rfl, hb12⟩
            rw [same_list (snoc_ne l eb)]
            replace R := own_below R hb12
            replace hown := own_below hown hb12
            replace hB := hB.trans (hb12.mono hB.size)
            clear hb12
            go_wp2_with fail
            refine (zzSame_any _ _ _ _ _ _ _ l t t _ (row_of_own R) (row_of_own hown)).mono ?_
            rintro e w13 ⟨rfl, hb13⟩
            rw [same_list (snoc_ne l eb).symm]
            replace hB := hB.trans (hb13.mono hB.size)
            clear hb13
            go_wp2
            go_ret
            exact ⟨rfl, hB⟩
      obtain ⟨k, rfl⟩ := Int.eq_ofNat_of_zero_le (show 0 ≤ i by omega)
      clear hi0
      by_cases hi2 : (n : Int) ≤ (k : Int)
      · have hi3 : ¬ (k : Int) < (n : Int) := by omega
        have G0 : w.heap.size < w8.heap.size := (hown.lt _ rfl).2
        go_wp2_with (at_make; refine wpList_make_full _ rfl _ _ 22 rfl w8.heap.size 5 i0 (.int .u8 0) 1 Try.underlying22 hi hz0 hz1 _ _ _ _ (n + 1) rfl rfl (by omega) (by omega) ?b2 ?b3 (Nat.le_refl _) ?_)
        case b2 => first | (rw [hz2]; omega) | omega
        case b3 => unfold maxLen; omega
        intro wm hownm hgrowm
        have hbm : Below w8.heap.size w8 wm := (Below.refl _ _).grown hgrowm (Nat.le_refl _) (fun k h => by cases h)
        clear hgrowm
        have HCL : Hid (∀ j (hj : j < l.length), w8.cell? ⟨w.heap.size, j, none⟩ = some (.int .u8 (l[j].toNat : Int))) := fun j hj => by
          rw [hown.cellAt j (by have := HL.out; omega), cellsOf_at l j hj]
        go_wp2
        go_loopw [17] (fun kk wr => ∃ (k : Nat) (xs : List Value), k ≤ n ∧ kk = .int .i64 k ∧ wr.ownsRow w8.heap.size 5 1 (.slice (some ⟨w8.heap.size, 0, none⟩) (n + 1) (n + 1)) (n + 1) xs ∧ Hid (xs.take k = cellsOf (l.take k)) ∧ Below w8.heap.size w8 wr) (fun kk _ => n - (intOf kk).toNat)
        case atStart => exact ⟨0, _, Nat.zero_le _, rfl, hownm, rfl, hbm⟩
        case round =>
          clear hownm hbm wm
          obtain ⟨k, xs, hk, rfl, hownl, HT, hnx⟩ := hrel
          by_cases hlt2 : (k : Int) < (n : Int)
          · omega
          · obtain rfl : k = n := by omega
            obtain ⟨ux, cx⟩ : ∃ u, wr.cell? ⟨w8.heap.size, k, none⟩ = some u := ⟨xs[k]'(by have := hownl.1; omega), by rw [hownl.cellAt k (by omega)]; exact List.getElem?_eq_getElem _⟩
            have fz := hownl.frozenAt k
            have R := (hownl.stored k (.int .u8 (eb.toNat : Int))).1
            rw [cells_end xs l k eb (by have := hownl.1; omega) HL.out HT.out] at R
            have hb2 : Below w8.heap.size w8 (wr.setCell ⟨w8.heap.size, k, none⟩ (.int .u8 (eb.toNat : Int))) := hnx.setCell (Nat.le_refl _) _
            replace hown := own_below hown hb2
            replace hB := hB.trans (hb2.mono hB.size)
            clear HT hownl hb2 hnx
            go_wp2_with fail
            refine (zzSame_any _ _ _ _ _ _ l _ t t _ (row_of_own hown) (row_of_own R)).mono ?_
            rintro e w12 ⟨rfl, hb12⟩
            rw [same_list (snoc_ne l eb)]
            replace R := own_below R hb12
            replace hown := own_below hown hb12
            replace hB := hB.trans (hb12.mono hB.size)
            clear hb12
            go_wp2_with fail
            refine (zzSame_any _ _ _ _ _ _ _ l t t _ (row_of_own R) (row_of_own hown)).mono ?_
            rintro e w13 ⟨rfl, hb13⟩
            rw [same_list (snoc_ne l eb).symm]
            replace hB := hB.trans (hb13.mono hB.size)
            clear hb13
            go_wp2
            go_ret
            exact ⟨rfl, hB⟩
      omega
  · have hq : ((n : Int) == 0) = false := beq_eq_false_iff_ne.2 (by omega)
    by_cases hdd : d = 0
    · have hdq : (d != 0) = false := by simpa using hdd
      clear hdd
      by_cases hi0 : i < 0
      · have hi1 : ¬ 0 ≤ i := by omega
        have G0 : w.heap.size < w4.heap.size := (hown.lt _ rfl).2
        go_wp2_with (at_make; refine wpList_make_full _ rfl _ _ 22 rfl w4.heap.size 5 i0 (.int .u8 0) 1 Try.underlying22 hi hz0 hz1 _ _ _ _ (n + 1) rfl rfl (by omega) (by omega) ?b2 ?b3 (Nat.le_refl _) ?_)
        case b2 => first | (rw [hz2]; omega) | omega
        case b3 => unfold maxLen; omega
        intro wm hownm hgrowm
        have hbm : Below w4.heap.size w4 wm := (Below.refl _ _).grown hgrowm (Nat.le_refl _) (fun k h => by cases h)
        clear hgrowm
        have HCL : Hid (∀ j (hj : j < l.length), w4.cell? ⟨w.heap.size, j, none⟩ = some (.int .u8 (l[j].toNat : Int))) := fun j hj => by
          rw [hown.cellAt j (by have := HL.out; omega), cellsOf_at l j hj]
        go_wp2
        go_loopw [17] (fun kk wr => ∃ (k : Nat) (xs : List Value), k ≤ n ∧ kk = .int .i64 k ∧ wr.ownsRow w4.heap.size 5 1 (.slice (some ⟨w4.heap.size, 0, none⟩) (n + 1) (n + 1)) (n + 1) xs ∧ Hid (xs.take k = cellsOf (l.take k)) ∧ Below w4.heap.size w4 wr) (fun kk _ => n - (intOf kk).toNat)
        case atStart => exact ⟨0, _, Nat.zero_le _, rfl, hownm, rfl, hbm⟩
        case round =>
          clear hownm hbm wm
          obtain ⟨k, xs, hk, rfl, hownl, HT, hnx⟩ := hrel
          by_cases hlt2 : (k : Int) < (n : Int)
          · have hkl : k < l.length := by have := HL.out; omega
            have cl : wr.cell? ⟨w.heap.size, k, none⟩ = some (.int .u8 (l[k].toNat : Int)) := (hnx.cell (p := ⟨w.heap.size, k, none⟩) G0).trans (HCL.out k hkl)
            obtain ⟨ux, cx⟩ : ∃ u, wr.cell? ⟨w4.heap.size, k, none⟩ = some u := ⟨xs[k]'(by have := hownl.1; omega), by rw [hownl.cellAt k (by omega)]; exact List.getElem?_eq_getElem _⟩
            have fz := hownl.frozenAt k
            have R := (hownl.stored k (.int .u8 (l[k].toNat : Int))).1
            have hb2 : Below w4.heap.size w4 (wr.setCell ⟨w4.heap.size, k, none⟩ (.int .u8 (l[k].toNat : Int))) := hnx.setCell (Nat.le_refl _) _
            have HT2 : Hid ((xs.set k (.int .u8 (l[k].toNat : Int))).take (k + 1) = cellsOf (l.take (k + 1))) := by
              unfold Hid; rw [take_set_succ _ _ _ (by have := hownl.1; omega), cellsOf_take l k hkl, HT.out]
            clear HT hownl
            go_wp2
            go_roundw
            case rel => exact ⟨k + 1, _, by omega, by go_num, R, HT2, hb2⟩
            case measure => simp [intOf]; omega
          · obtain rfl : k = n := by omega
            obtain ⟨ux, cx⟩ : ∃ u, wr.cell? ⟨w4.heap.size, k, none⟩ = some u := ⟨xs[k]'(by have := hownl.1; omega), by rw [hownl.cellAt k (by omega)]; exact List.getElem?_eq_getElem _⟩
            have fz := hownl.frozenAt k
            have R := (hownl.stored k (.int .u8 (eb.toNat : Int))).1
            rw [cells_end xs l k eb (by have := hownl.1; omega) HL.out HT.out] at R
            have hb2 : Below w4.heap.size w4 (wr.setCell ⟨w4.heap.size, k, none⟩ (.int .u8 (eb.toNat : Int))) := hnx.setCell (Nat.le_refl _) _
            replace hown := own_below hown hb2
            replace hB := hB.trans (hb2.mono hB.size)
            clear HT hownl hb2 hnx
            go_wp2_with fail
            refine (zzSame_any _ _ _ _ _ _ l _ t t _ (row_of_own hown) (row_of_own R)).mono ?_
            rintro e w12 ⟨rfl, hb12⟩
            rw [same_list (snoc_ne l eb)]
            replace R := own_below R hb12
            replace hown := own_below hown hb12
            replace hB := hB.trans (hb12.mono hB.size)
            clear hb12
            go_wp2_with fail
            refine (zzSame_any _ _ _ _ _ _ _ l t t _ (row_of_own R) (row_of_own hown)).mono ?_
            rintro e w13 ⟨rfl, hb13⟩
            rw [same_list (snoc_ne l eb).symm]
            replace hB := hB.trans (hb13.mono hB.size)
            clear hb13
            go_wp2
            go_ret
            exact ⟨rfl, hB⟩
      obtain ⟨k, rfl⟩ := Int.eq_ofNat_of_zero_le (show 0 ≤ i by omega)
      clear hi0
      by_cases hi2 : (n : Int) ≤ (k : Int)
      · have hi3 : ¬ (k : Int) < (n : Int) := by omega
        have G0 : w.heap.size < w4.heap.size := (hown.lt _ rfl).2
        go_wp2_with (at_make; refine wpList_make_full _ rfl _ _ 22 rfl w4.heap.size 5 i0 (.int .u8 0) 1 Try.underlying22 hi hz0 hz1 _ _ _ _ (n + 1) rfl rfl (by omega) (by omega) ?b2 ?b3 (Nat.le_refl _) ?_)
        case b2 => first | (rw [hz2]; omega) | omega
        case b3 => unfold maxLen; omega
        intro wm hownm hgrowm
        have hbm : Below w4.heap.size w4 wm := (Below.refl _ _).grown hgrowm (Nat.le_refl _) (fun k h => by cases h)
        clear hgrowm
        have HCL : Hid (∀ j (hj : j < l.length), w4.cell? ⟨w.heap.size, j, none⟩ = some (.int .u8 (l[j].toNat : Int))) := fun j hj => by
          rw [hown.cellAt j (by have := HL.out; omega), cellsOf_at l j hj]
        go_wp2
        go_loopw [17] (fun kk wr => ∃ (k : Nat) (xs : List Value), k ≤ n ∧ kk = .int .i64 k ∧ wr.ownsRow w4.heap.size 5 1 (.slice (some ⟨w4.heap.size, 0, none⟩) (n + 1) (n + 1)) (n + 1) xs ∧ Hid (xs.take k = cellsOf (l.take k)) ∧ Below w4.heap.size w4 wr) (fun kk _ => n - (intOf kk).toNat)
        case atStart => exact ⟨0, _, Nat.zero_le _, rfl, hownm, rfl, hbm⟩
        case round =>
          clear hownm hbm wm
          obtain ⟨k, xs, hk, rfl, hownl, HT, hnx⟩ := hrel
          by_cases hlt2 : (k : Int) < (n : Int)
          · have hkl : k < l.length := by have := HL.out; omega
            have cl : wr.cell? ⟨w.heap.size, k, none⟩ = some (.int .u8 (l[k].toNat : Int)) := (hnx.cell (p := ⟨w.heap.size, k, none⟩) G0).trans (HCL.out k hkl)
            obtain ⟨ux, cx⟩ : ∃ u, wr.cell? ⟨w4.heap.size, k, none⟩ = some u := ⟨xs[k]'(by have := hownl.1; omega), by rw [hownl.cellAt k (by omega)]; exact List.getElem?_eq_getElem _⟩
            have fz := hownl.frozenAt k
            have R := (hownl.stored k (.int .u8 (l[k].toNat : Int))).1
            have hb2 : Below w4.heap.size w4 (wr.setCell ⟨w4.heap.size, k, none⟩ (.int .u8 (l[k].toNat : Int))) := hnx.setCell (Nat.le_refl _) _
            have HT2 : Hid ((xs.set k (.int .u8 (l[k].toNat : Int))).take (k + 1) = cellsOf (l.take (k + 1))) := by
              unfold Hid; rw [take_set_succ _ _ _ (by have := hownl.1; omega), cellsOf_take l k hkl, HT.out]
            clear HT hownl
            go_wp2
            go_roundw
            case rel => exact ⟨k + 1, _, by omega, by go_num, R, HT2, hb2⟩
            case measure => simp [intOf]; omega
          · obtain rfl : k = n := by omega
            obtain ⟨ux, cx⟩ : ∃ u, wr.cell? ⟨w4.heap.size, k, none⟩ = some u := ⟨xs[k]'(by have := hownl.1; omega), by rw [hownl.cellAt k (by omega)]; exact List.getElem?_eq_getElem _⟩
            have fz := hownl.frozenAt k
            have R := (hownl.stored k (.int .u8 (eb.toNat : Int))).1
            rw [cells_end xs l k eb (by have := hownl.1; omega) HL.out HT.out] at R
            have hb2 : Below w4.heap.size w4 (wr.setCell ⟨w4.heap.size, k, none⟩ (.int .u8 (eb.toNat : Int))) := hnx.setCell (Nat.le_refl _) _
            replace hown := own_below hown hb2
            replace hB := hB.trans (hb2.mono hB.size)
            clear HT hownl hb2 hnx
            go_wp2_with fail
            refine (zzSame_any _ _ _ _ _ _ l _ t t _ (row_of_own hown) (row_of_own R)).mono ?_
            rintro e w12 ⟨rfl, hb12⟩
            rw [same_list (snoc_ne l eb)]
            replace R := own_below R hb12
            replace hown := own_below hown hb12
            replace hB := hB.trans (hb12.mono hB.size)
            clear hb12
            go_wp2_with fail
            refine (zzSame_any _ _ _ _ _ _ _ l t t _ (row_of_own R) (row_of_own hown)).mono ?_
            rintro e w13 ⟨rfl, hb13⟩
            rw [same_list (snoc_ne l eb).symm]
            replace hB := hB.trans (hb13.mono hB.size)
            clear hb13
            go_wp2
            go_ret
            exact ⟨rfl, hB⟩
      have hi3 : (k : Int) < (n : Int) := by omega
      by_cases hx : xu = 0
      · have hxq : ((xu.toNat : Int) != 0) = false := by subst hx; rfl
        clear hx
        have G0 : w.heap.size < w4.heap.size := (hown.lt _ rfl).2
        go_wp2_with (at_make; refine wpList_make_full _ rfl _ _ 22 rfl w4.heap.size 5 i0 (.int .u8 0) 1 Try.underlying22 hi hz0 hz1 _ _ _ _ (n + 1) rfl rfl (by omega) (by omega) ?b2 ?b3 (Nat.le_refl _) ?_)
        case b2 => first | (rw [hz2]; omega) | omega
        case b3 => unfold maxLen; omega
        intro wm hownm hgrowm
        have hbm : Below w4.heap.size w4 wm := (Below.refl _ _).grown hgrowm (Nat.le_refl _) (fun k h => by cases h)
        clear hgrowm
        have HCL : Hid (∀ j (hj : j < l.length), w4.cell? ⟨w.heap.size, j, none⟩ = some (.int .u8 (l[j].toNat : Int))) := fun j hj => by
          rw [hown.cellAt j (by have := HL.out; omega), cellsOf_at l j hj]
        go_wp2
        go_loopw [17] (fun kk wr => ∃ (k : Nat) (xs : List Value), k ≤ n ∧ kk = .int .i64 k ∧ wr.ownsRow w4.heap.size 5 1 (.slice (some ⟨w4.heap.size, 0, none⟩) (n + 1) (n + 1)) (n + 1) xs ∧ Hid (xs.take k = cellsOf (l.take k)) ∧ Below w4.heap.size w4 wr) (fun kk _ => n - (intOf kk).toNat)
        case atStart => exact ⟨0, _, Nat.zero_le _, rfl, hownm, rfl, hbm⟩
        case round =>
          clear hownm hbm wm
          obtain ⟨k, xs, hk, rfl, hownl, HT, hnx⟩ := hrel
          by_cases hlt2 : (k : Int) < (n : Int)
          · have hkl : k < l.length := by have := HL.out; omega
            have cl : wr.cell? ⟨w.heap.size, k, none⟩ = some (.int .u8 (l[k].toNat : Int)) := (hnx.cell (p := ⟨w.heap.size, k, none⟩) G0).trans (HCL.out k hkl)
            obtain ⟨ux, cx⟩ : ∃ u, wr.cell? ⟨w4.heap.size, k, none⟩ = some u := ⟨xs[k]'(by have := hownl.1; omega), by rw [hownl.cellAt k (by omega)]; exact List.getElem?_eq_getElem _⟩
            have fz := hownl.frozenAt k
            have R := (hownl.stored k (.int .u8 (l[k].toNat : Int))).1
            have hb2 : Below w4.heap.size w4 (wr.setCell ⟨w4.heap.size, k, none⟩ (.int .u8 (l[k].toNat : Int))) := hnx.setCell (Nat.le_refl _) _
            have HT2 : Hid ((xs.set k (.int .u8 (l[k].toNat : Int))).take (k + 1) = cellsOf (l.take (k + 1))) := by
              unfold Hid; rw [take_set_succ _ _ _ (by have := hownl.1; omega), cellsOf_take l k hkl, HT.out]
            clear HT hownl
            go_wp2
            go_roundw
            case rel => exact ⟨k + 1, _, by omega, by go_num, R, HT2, hb2⟩
            case measure => simp [intOf]; omega
          · obtain rfl : k = n := by omega
            obtain ⟨ux, cx⟩ : ∃ u, wr.cell? ⟨w4.heap.size, k, none⟩ = some u := ⟨xs[k]'(by have := hownl.1; omega), by rw [hownl.cellAt k (by omega)]; exact List.getElem?_eq_getElem _⟩
            have fz := hownl.frozenAt k
            have R := (hownl.stored k (.int .u8 (eb.toNat : Int))).1
            rw [cells_end xs l k eb (by have := hownl.1; omega) HL.out HT.out] at R
            have hb2 : Below w4.heap.size w4 (wr.setCell ⟨w4.heap.size, k, none⟩ (.int .u8 (eb.toNat : Int))) := hnx.setCell (Nat.le_refl _) _
            replace hown := own_below hown hb2
            replace hB := hB.trans (hb2.mono hB.size)
            clear HT hownl hb2 hnx
            go_wp2_with fail
            refine (zzSame_any _ _ _ _ _ _ l _ t t _ (row_of_own hown) (row_of_own R)).mono ?_
            rintro e w12 ⟨rfl, hb12⟩
            rw [same_list (snoc_ne l eb)]
            replace R := own_below R hb12
            replace hown := own_below hown hb12
            replace hB := hB.trans (hb12.mono hB.size)
            clear hb12
            go_wp2_with fail
            refine (zzSame_any _ _ _ _ _ _ _ l t t _ (row_of_own R) (row_of_own hown)).mono ?_
            rintro e w13 ⟨rfl, hb13⟩
            rw [same_list (snoc_ne l eb).symm]
            replace hB := hB.trans (hb13.mono hB.size)
            clear hb13
            go_wp2
            go_ret
            exact ⟨rfl, hB⟩
      have hxq : ((xu.toNat : Int) != 0) = true := by rw [bne_iff_ne]; intro h; exact hx (UInt8.toNat_inj.1 (by simpa using h))
      have hkl : k < l.length := by have := HL.out; omega
      have LS : Hid (l ≠ l.set k (l[k] ^^^ xu)) := set_ne l k _ hkl (xor_ne _ _ hx)
      have LX := xor_byte l[k] xu
      clear hx
      go_wp2_with fail
      refine (clone_some w.heap.size n n l _ (row_of_own hown) hn).mono ?_
      rintro e w9 ⟨rfl, hown9, hb9⟩
      have cx : w9.cell? ⟨w4.heap.size, k, none⟩ = some (.int .u8 (l[k].toNat : Int)) := by rw [hown9.cellAt k (by omega), cellsOf_at l k hkl]
      have fx := hown9.frozenAt k
      have r9 : (w9.setCell ⟨w4.heap.size, k, none⟩ (.int .u8 ((l[k] ^^^ xu).toNat : Int))).ownsRow w4.heap.size 5 1 (.slice (some ⟨w4.heap.size, 0, none⟩) n n) n (cellsOf (l.set k (l[k] ^^^ xu))) := by
        rw [← cells_set]; exact (hown9.stored k _).1
      have hb9' : Below w4.heap.size w4 (w9.setCell ⟨w4.heap.size, k, none⟩ (.int .u8 ((l[k] ^^^ xu).toNat : Int))) := hb9.setCell (Nat.le_refl _) _
      clear hown9 hb9
      replace hown := own_below hown hb9'
      replace hB := hB.trans (hb9'.mono hB.size)
      clear hb9'
      go_wp2_with fail
      refine (zzSame_any _ _ _ _ _ _ l _ t t _ (row_of_own hown) (row_of_own r9)).mono ?_
      rintro e w10 ⟨rfl, hb10⟩
      rw [same_list LS.out]
      replace r9 := own_below r9 hb10
      replace hown := own_below hown hb10
      replace hB := hB.trans (hb10.mono hB.size)
      clear hb10
      go_wp2_with fail
      refine (zzSame_any _ _ _ _ _ _ _ l t t _ (row_of_own r9) (row_of_own hown)).mono ?_
      rintro e w11 ⟨rfl, hb11⟩
      rw [same_list LS.out.symm]
      replace hown := own_below hown hb11
      replace hB := hB.trans (hb11.mono hB.size)
      clear hb11
      clear r9 LS LX cx fx
      have G0 : w.heap.size < w11.heap.size := (hown.lt _ rfl).2
      go_wp2_with (at_make; refine wpList_make_full _ rfl _ _ 22 rfl w11.heap.size 5 i0 (.int .u8 0) 1 Try.underlying22 hi hz0 hz1 _ _ _ _ (n + 1) rfl rfl (by omega) (by omega) ?b2 ?b3 (Nat.le_refl _) ?_)
      case b2 => first | (rw [hz2]; omega) | omega
      case b3 => unfold maxLen; omega
      intro wm hownm hgrowm
      have hbm : Below w11.heap.size w11 wm := (Below.refl _ _).grown hgrowm (Nat.le_refl _) (fun k h => by cases h)
      clear hgrowm
      have HCL : Hid (∀ j (hj : j < l.length), w11.cell? ⟨w.heap.size, j, none⟩ = some (.int .u8 (l[j].toNat : Int))) := fun j hj => by
        rw [hown.cellAt j (by have := HL.out; omega), cellsOf_at l j hj]
      go_wp2
      go_loopw [17] (fun kk wr => ∃ (k : Nat) (xs : List Value), k ≤ n ∧ kk = .int .i64 k ∧ wr.ownsRow w11.heap.size 5 1 (.slice (some ⟨w11.heap.size, 0, none⟩) (n + 1) (n + 1)) (n + 1) xs ∧ Hid (xs.take k = cellsOf (l.take k)) ∧ Below w11.heap.size w11 wr) (fun kk _ => n - (intOf kk).toNat)
      case atStart => exact ⟨0, _, Nat.zero_le _, rfl, hownm, rfl, hbm⟩
      case round =>
        clear hownm hbm wm
        obtain ⟨k, xs, hk, rfl, hownl, HT, hnx⟩ := hrel
        by_cases hlt2 : (k : Int) < (n : Int)
        · have hkl : k < l.length := by have := HL.out; omega
          have cl : wr.cell? ⟨w.heap.size, k, none⟩ = some (.int .u8 (l[k].toNat : Int)) := (hnx.cell (p := ⟨w.heap.size, k, none⟩) G0).trans (HCL.out k hkl)
          obtain ⟨ux, cx⟩ : ∃ u, wr.cell? ⟨w11.heap.size, k, none⟩ = some u := ⟨xs[k]'(by have := hownl.1; omega), by rw [hownl.cellAt k (by omega)]; exact List.getElem?_eq_getElem _⟩
          have fz := hownl.frozenAt k
          have R := (hownl.stored k (.int .u8 (l[k].toNat : Int))).1
          have hb2 : Below w11.heap.size w11 (wr.setCell ⟨w11.heap.size, k, none⟩ (.int .u8 (l[k].toNat : Int))) := hnx.setCell (Nat.le_refl _) _
          have HT2 : Hid ((xs.set k (.int .u8 (l[k].toNat : Int))).take (k + 1) = cellsOf (l.take (k + 1))) := by
            unfold Hid; rw [take_set_succ _ _ _ (by have := hownl.1; omega), cellsOf_take l k hkl, HT.out]
          clear HT hownl
          go_wp2
          go_roundw
          case rel => exact ⟨k + 1, _, by omega, by go_num, R, HT2, hb2⟩
          case measure => simp [intOf]; omega
        · obtain rfl : k = n := by omega
          obtain ⟨ux, cx⟩ : ∃ u, wr.cell? ⟨w11.heap.size, k, none⟩ = some u := ⟨xs[k]'(by have := hownl.1; omega), by rw [hownl.cellAt k (by omega)]; exact List.getElem?_eq_getElem _⟩
          have fz := hownl.frozenAt k
          have R := (hownl.stored k (.int .u8 (eb.toNat : Int))).1
          rw [cells_end xs l k eb (by have := hownl.1; omega) HL.out HT.out] at R
          have hb2 : Below w11.heap.size w11 (wr.setCell ⟨w11.heap.size, k, none⟩ (.int .u8 (eb.toNat : Int))) := hnx.setCell (Nat.le_refl _) _
          replace hown := own_below hown hb2
          replace hB := hB.trans (hb2.mono hB.size)
          clear HT hownl hb2 hnx
          go_wp2_with fail
          refine (zzSame_any _ _ _ _ _ _ l _ t t _ (row_of_own hown) (row_of_own R)).mono ?_
          rintro e w12 ⟨rfl, hb12⟩
          rw [same_list (snoc_ne l eb)]
          replace R := own_below R hb12
          replace hown := own_below hown hb12
          replace hB := hB.trans (hb12.mono hB.size)
          clear hb12
          go_wp2_with fail
          refine (zzSame_any _ _ _ _ _ _ _ l t t _ (row_of_own R) (row_of_own hown)).mono ?_
          rintro e w13 ⟨rfl, hb13⟩
          rw [same_list (snoc_ne l eb).symm]
          replace hB := hB.trans (hb13.mono hB.size)
          clear hb13
          go_wp2
          go_ret
          exact ⟨rfl, hB⟩
    · have HX : Hid (t ≠ bits .xor .u64 t d) := xor_tag t d ht1 ht2 hd1 hd2 hdd
      have hdq : (d != 0) = true := bne_iff_ne.2 hdd
      clear hdd
      go_wp2_with fail
      refine (zzSame_any _ _ _ _ _ _ l l t _ _ (row_of_own hown) (row_of_own hown)).mono ?_
      rintro e w7 ⟨rfl, hb7⟩
      rw [same_tag l HX.out]
      replace hown := own_below hown hb7
      replace hB := hB.trans (hb7.mono hB.size)
      clear hb7
      go_wp2_with fail
      refine (zzSame_any _ _ _ _ _ _ l l _ t _ (row_of_own hown) (row_of_own hown)).mono ?_
      rintro e w8 ⟨rfl, hb8⟩
      rw [same_tag l HX.out.symm]
      replace hown := own_below hown hb8
      replace hB := hB.trans (hb8.mono hB.size)
      clear hb8
      by_cases hi0 : i < 0
      · have hi1 : ¬ 0 ≤ i := by omega
        have G0 : w.heap.size < w8.heap.size := (hown.lt _ rfl).2
        go_wp2_with (at_make; refine wpList_make_full _ rfl _ _ 22 rfl w8.heap.size 5 i0 (.int .u8 0) 1 Try.underlying22 hi hz0 hz1 _ _ _ _ (n + 1) rfl rfl (by omega) (by omega) ?b2 ?b3 (Nat.le_refl _) ?_)
        case b2 => first | (rw [hz2]; omega) | omega
        case b3 => unfold maxLen; omega
        intro wm hownm hgrowm
        have hbm : Below w8.heap.size w8 wm := (Below.refl _ _).grown hgrowm (Nat.le_refl _) (fun k h => by cases h)
        clear hgrowm
        have HCL : Hid (∀ j (hj : j < l.length), w8.cell? ⟨w.heap.size, j, none⟩ = some (.int .u8 (l[j].toNat : Int))) := fun j hj => by
          rw [hown.cellAt j (by have := HL.out; omega), cellsOf_at l j hj]
        go_wp2
        go_loopw [17] (fun kk wr => ∃ (k : Nat) (xs : List Value), k ≤ n ∧ kk = .int .i64 k ∧ wr.ownsRow w8.heap.size 5 1 (.slice (some ⟨w8.heap.size, 0, none⟩) (n + 1) (n + 1)) (n + 1) xs ∧ Hid (xs.take k = cellsOf (l.take k)) ∧ Below w8.heap.size w8 wr) (fun kk _ => n - (intOf kk).toNat)
        case atStart => exact ⟨0, _, Nat.zero_le _, rfl, hownm, rfl, hbm⟩
        case round =>
          clear hownm hbm wm
          obtain ⟨k, xs, hk, rfl, hownl, HT, hnx⟩ := hrel
          by_cases hlt2 : (k : Int) < (n : Int)
          · have hkl : k < l.length := by have := HL.out; omega
            have cl : wr.cell? ⟨w.heap.size, k, none⟩ = some (.int .u8 (l[k].toNat : Int)) := (hnx.cell (p := ⟨w.heap.size, k, none⟩) G0).trans (HCL.out k hkl)
            obtain ⟨ux, cx⟩ : ∃ u, wr.cell? ⟨w8.heap.size, k, none⟩ = some u := ⟨xs[k]'(by have := hownl.1; omega), by rw [hownl.cellAt k (by omega)]; exact List.getElem?_eq_getElem _⟩
            have fz := hownl.frozenAt k
            have R := (hownl.stored k (.int .u8 (l[k].toNat : Int))).1
            have hb2 : Below w8.heap.size w8 (wr.setCell ⟨w8.heap.size, k, none⟩ (.int .u8 (l[k].toNat : Int))) := hnx.setCell (Nat.le_refl _) _
            have HT2 : Hid ((xs.set k (.int .u8 (l[k].toNat : Int))).take (k + 1) = cellsOf (l.take (k + 1))) := by
              unfold Hid; rw [take_set_succ _ _ _ (by have := hownl.1; omega), cellsOf_take l k hkl, HT.out]
            clear HT hownl
            go_wp2
            go_roundw
            case rel => exact ⟨k + 1, _, by omega, by go_num, R, HT2, hb2⟩
            case measure => simp [intOf]; omega
          · obtain rfl : k = n := by omega
            obtain ⟨ux, cx⟩ : ∃ u, wr.cell? ⟨w8.heap.size, k, none⟩ = some u := ⟨xs[k]'(by have := hownl.1; omega), by rw [hownl.cellAt k (by omega)]; exact List.getElem?_eq_getElem _⟩
            have fz := hownl.frozenAt k
            have R := (hownl.stored k (.int .u8 (eb.toNat : Int))).1
            rw [cells_end xs l k eb (by have := hownl.1; omega) HL.out HT.out] at R
            have hb2 : Below w8.heap.size w8 (wr.setCell ⟨w8.heap.size, k, none⟩ (.int .u8 (eb.toNat : Int))) := hnx.setCell (Nat.le_refl _) _
            replace hown := own_below hown hb2
            replace hB := hB.trans (hb2.mono hB.size)
            clear HT hownl hb2 hnx
            go_wp2_with fail
            refine (zzSame_any _ _ _ _ _ _ l _ t t _ (row_of_own hown) (row_of_own R)).mono ?_
            rintro e w12 ⟨rfl, hb12⟩
            rw [same_list (snoc_ne l eb)]
            replace R := own_below R hb12
            replace hown := own_below hown hb12
            replace hB := hB.trans (hb12.mono hB.size)
            clear hb12
            go_wp2_with fail
            refine (zzSame_any _ _ _ _ _ _ _ l t t _ (row_of_own R) (row_of_own hown)).mono ?_
            rintro e w13 ⟨rfl, hb13⟩
            rw [same_list (snoc_ne l eb).symm]
            replace hB := hB.trans (hb13.mono hB.size)
            clear hb13
            go_wp2
            go_ret
            exact ⟨rfl, hB⟩
      obtain ⟨k, rfl⟩ := Int.eq_ofNat_of_zero_le (show 0 ≤ i by omega)
      clear hi0
      by_cases hi2 : (n : Int) ≤ (k : Int)
      · have hi3 : ¬ (k : Int) < (n : Int) := by omega
        have G0 : w.heap.size < w8.heap.size := (hown.lt _ rfl).2
        go_wp2_with (at_make; refine wpList_make_full _ rfl _ _ 22 rfl w8.heap.size 5 i0 (.int .u8 0) 1 Try.underlying22 hi hz0 hz1 _ _ _ _ (n + 1) rfl rfl (by omega) (by omega) ?b2 ?b3 (Nat.le_refl _) ?_)
        case b2 => first | (rw [hz2]; omega) | omega
        case b3 => unfold maxLen; omega
        intro wm hownm hgrowm
        have hbm : Below w8.heap.size w8 wm := (Below.refl _ _).grown hgrowm (Nat.le_refl _) (fun k h => by cases h)
        clear hgrowm
        have HCL : Hid (∀ j (hj : j < l.length), w8.cell? ⟨w.heap.size, j, none⟩ = some (.int .u8 (l[j].toNat : Int))) := fun j hj => by
          rw [hown.cellAt j (by have := HL.out; omega), cellsOf_at l j hj]
        go_wp2
        go_loopw [17] (fun kk wr => ∃ (k : Nat) (xs : List Value), k ≤ n ∧ kk = .int .i64 k ∧ wr.ownsRow w8.heap.size 5 1 (.slice (some ⟨w8.heap.size, 0, none⟩) (n + 1) (n + 1)) (n + 1) xs ∧ Hid (xs.take k = cellsOf (l.take k)) ∧ Below w8.heap.size w8 wr) (fun kk _ => n - (intOf kk).toNat)
        case atStart => exact ⟨0, _, Nat.zero_le _, rfl, hownm, rfl, hbm⟩
        case round =>
          clear hownm hbm wm
          obtain ⟨k, xs, hk, rfl, hownl, HT, hnx⟩ := hrel
          by_cases hlt2 : (k : Int) < (n : Int)
          · have hkl : k < l.length := by have := HL.out; omega
            have cl : wr.cell? ⟨w.heap.size, k, none⟩ = some (.int .u8 (l[k].toNat : Int)) := (hnx.cell (p := ⟨w.heap.size, k, none⟩) G0).trans (HCL.out k hkl)
            obtain ⟨ux, cx⟩ : ∃ u, wr.cell? ⟨w8.heap.size, k, none⟩ = some u := ⟨xs[k]'(by have := hownl.1; omega), by rw [hownl.cellAt k (by omega)]; exact List.getElem?_eq_getElem _⟩
            have fz := hownl.frozenAt k
            have R := (hownl.stored k (.int .u8 (l[k].toNat : Int))).1
            have hb2 : Below w8.heap.size w8 (wr.setCell ⟨w8.heap.size, k, none⟩ (.int .u8 (l[k].toNat : Int))) := hnx.setCell (Nat.le_refl _) _
            have HT2 : Hid ((xs.set k (.int .u8 (l[k].toNat : Int))).take (k + 1) = cellsOf (l.take (k + 1))) := by
              unfold Hid; rw [take_set_succ _ _ _ (by have := hownl.1; omega), cellsOf_take l k hkl, HT.out]
            clear HT hownl
            go_wp2
            go_roundw
            case rel => exact ⟨k + 1, _, by omega, by go_num, R, HT2, hb2⟩
            case measure => simp [intOf]; omega
          · obtain rfl : k = n := by omega
            obtain ⟨ux, cx⟩ : ∃ u, wr.cell? ⟨w8.heap.size, k, none⟩ = some u := ⟨xs[k]'(by have := hownl.1; omega), by rw [hownl.cellAt k (by omega)]; exact List.getElem?_eq_getElem _⟩
            have fz := hownl.frozenAt k
            have R := (hownl.stored k (.int .u8 (eb.toNat : Int))).1
            rw [cells_end xs l k eb (by have := hownl.1; omega) HL.out HT.out] at R
            have hb2 : Below w8.heap.size w8 (wr.setCell ⟨w8.heap.size, k, none⟩ (.int .u8 (eb.toNat : Int))) := hnx.setCell (Nat.le_refl _) _
            replace hown := own_below hown hb2
            replace hB := hB.trans (hb2.mono hB.size)
            clear HT hownl hb2 hnx
            go_wp2_with fail
            refine (zzSame_any _ _ _ _ _ _ l _ t t _ (row_of_own hown) (row_of_own R)).mono ?_
            rintro e w12 ⟨rfl, hb12⟩
            rw [same_list (snoc_ne l eb)]
            replace R := own_below R hb12
            replace hown := own_below hown hb12
            replace hB := hB.trans (hb12.mono hB.size)
            clear hb12
            go_wp2_with fail
            refine (zzSame_any _ _ _ _ _ _ _ l t t _ (row_of_own R) (row_of_own hown)).mono ?_
            rintro e w13 ⟨rfl, hb13⟩
            rw [same_list (snoc_ne l eb).symm]
            replace hB := hB.trans (hb13.mono hB.size)
            clear hb13
            go_wp2
            go_ret
            exact ⟨rfl, hB⟩
      have hi3 : (k : Int) < (n : Int) := by omega
      by_cases hx : xu = 0
      · have hxq : ((xu.toNat : Int) != 0) = false := by subst hx; rfl
        clear hx
        have G0 : w.heap.size < w8.heap.size := (hown.lt _ rfl).2
        go_wp2_with (at_make; refine wpList_make_full _ rfl _ _ 22 rfl w8.heap.size 5 i0 (.int .u8 0) 1 Try.underlying22 hi hz0 hz1 _ _ _ _ (n + 1) rfl rfl (by omega) (by omega) ?b2 ?b3 (Nat.le_refl _) ?_)
        case b2 => first | (rw [hz2]; omega) | omega
        case b3 => unfold maxLen; omega
        intro wm hownm hgrowm
        have hbm : Below w8.heap.size w8 wm := (Below.refl _ _).grown hgrowm (Nat.le_refl _) (fun k h => by cases h)
        clear hgrowm
        have HCL : Hid (∀ j (hj : j < l.length), w8.cell? ⟨w.heap.size, j, none⟩ = some (.int .u8 (l[j].toNat : Int))) := fun j hj => by
          rw [hown.cellAt j (by have := HL.out; omega), cellsOf_at l j hj]
        go_wp2
        go_loopw [17] (fun kk wr => ∃ (k : Nat) (xs : List Value), k ≤ n ∧ kk = .int .i64 k ∧ wr.ownsRow w8.heap.size 5 1 (.slice (some ⟨w8.heap.size, 0, none⟩) (n + 1) (n + 1)) (n + 1) xs ∧ Hid (xs.take k = cellsOf (l.take k)) ∧ Below w8.heap.size w8 wr) (fun kk _ => n - (intOf kk).toNat)
        case atStart => exact ⟨0, _, Nat.zero_le _, rfl, hownm, rfl, hbm⟩
        case round =>
          clear hownm hbm wm
          obtain ⟨k, xs, hk, rfl, hownl, HT, hnx⟩ := hrel
          by_cases hlt2 : (k : Int) < (n : Int)
          · have hkl : k < l.length := by have := HL.out; omega
            have cl : wr.cell? ⟨w.heap.size, k, none⟩ = some (.int .u8 (l[k].toNat : Int)) := (hnx.cell (p := ⟨w.heap.size, k, none⟩) G0).trans (HCL.out k hkl)
            obtain ⟨ux, cx⟩ : ∃ u, wr.cell? ⟨w8.heap.size, k, none⟩ = some u := ⟨xs[k]'(by have := hownl.1; omega), by rw [hownl.cellAt k (by omega)]; exact List.getElem?_eq_getElem _⟩
            have fz := hownl.frozenAt k
            have R := (hownl.stored k (.int .u8 (l[k].toNat : Int))).1
            have hb2 : Below w8.heap.size w8 (wr.setCell ⟨w8.heap.size, k, none⟩ (.int .u8 (l[k].toNat : Int))) := hnx.setCell (Nat.le_refl _) _
            have HT2 : Hid ((xs.set k (.int .u8 (l[k].toNat : Int))).take (k + 1) = cellsOf (l.take (k + 1))) := by
              unfold Hid; rw [take_set_succ _ _ _ (by have := hownl.1; omega), cellsOf_take l k hkl, HT.out]
            clear HT hownl
            go_wp2
            go_roundw
            case rel => exact ⟨k + 1, _, by omega, by go_num, R, HT2, hb2⟩
            case measure => simp [intOf]; omega
          · obtain rfl : k = n := by omega
            obtain ⟨ux, cx⟩ : ∃ u, wr.cell? ⟨w8.heap.size, k, none⟩ = some u := ⟨xs[k]'(by have := hownl.1; omega), by rw [hownl.cellAt k (by omega)]; exact List.getElem?_eq_getElem _⟩
            have fz := hownl.frozenAt k
            have R := (hownl.stored k (.int .u8 (eb.toNat : Int))).1
            rw [cells_end xs l k eb (by have := hownl.1; omega) HL.out HT.out] at R
            have hb2 : Below w8.heap.size w8 (wr.setCell ⟨w8.heap.size, k, none⟩ (.int .u8 (eb.toNat : Int))) := hnx.setCell (Nat.le_refl _) _
            replace hown := own_below hown hb2
            replace hB := hB.trans (hb2.mono hB.size)
            clear HT hownl hb2 hnx
            go_wp2_with fail
            refine (zzSame_any _ _ _ _ _ _ l _ t t _ (row_of_own hown) (row_of_own R)).mono ?_
            rintro e w12 ⟨rfl, hb12⟩
            rw [same_list (snoc_ne l eb)]
            replace R := own_below R hb12
            replace hown := own_below hown hb12
            replace hB := hB.trans (hb12.mono hB.size)
            clear hb12
            go_wp2_with fail
            refine (zzSame_any _ _ _ _ _ _ _ l t t _ (row_of_own R) (row_of_own hown)).mono ?_
            rintro e w13 ⟨rfl, hb13⟩
            rw [same_list (snoc_ne l eb).symm]
            replace hB := hB.trans (hb13.mono hB.size)
            clear hb13
            go_wp2
            go_ret
            exact ⟨rfl, hB⟩
      have hxq : ((xu.toNat : Int) != 0) = true := by rw [bne_iff_ne]; intro h; exact hx (UInt8.toNat_inj.1 (by simpa using h))
      have hkl : k < l.length := by have := HL.out; omega
      have LS : Hid (l ≠ l.set k (l[k] ^^^ xu)) := set_ne l k _ hkl (xor_ne _ _ hx)
      have LX := xor_byte l[k] xu
      clear hx
      go_wp2_with fail
      refine (clone_some w.heap.size n n l _ (row_of_own hown) hn).mono ?_
      rintro e w9 ⟨rfl, hown9, hb9⟩
      have cx : w9.cell? ⟨w8.heap.size, k, none⟩ = some (.int .u8 (l[k].toNat : Int)) := by rw [hown9.cellAt k (by omega), cellsOf_at l k hkl]
      have fx := hown9.frozenAt k
      have r9 : (w9.setCell ⟨w8.heap.size, k, none⟩ (.int .u8 ((l[k] ^^^ xu).toNat : Int))).ownsRow w8.heap.size 5 1 (.slice (some ⟨w8.heap.size, 0, none⟩) n n) n (cellsOf (l.set k (l[k] ^^^ xu))) := by
        rw [← cells_set]; exact (hown9.stored k _).1
      have hb9' : Below w8.heap.size w8 (w9.setCell ⟨w8.heap.size, k, none⟩ (.int .u8 ((l[k] ^^^ xu).toNat : Int))) := hb9.setCell (Nat.le_refl _) _
      clear hown9 hb9
      replace hown := own_below hown hb9'
      replace hB := hB.trans (hb9'.mono hB.size)
      clear hb9'
      go_wp2_with fail
      refine (zzSame_any _ _ _ _ _ _ l _ t t _ (row_of_own hown) (row_of_own r9)).mono ?_
      rintro e w10 ⟨rfl, hb10⟩
      rw [same_list LS.out]
      replace r9 := own_below r9 hb10
      replace hown := own_below hown hb10
      replace hB := hB.trans (hb10.mono hB.size)
      clear hb10
      go_wp2_with fail
      refine (zzSame_any _ _ _ _ _ _ _ l t t _ (row_of_own r9) (row_of_own hown)).mono ?_
      rintro e w11 ⟨rfl, hb11⟩
      rw [same_list LS.out.symm]
      replace hown := own_below hown hb11
      replace hB := hB.trans (hb11.mono hB.size)
      clear hb11
      clear r9 LS LX cx fx
      have G0 : w.heap.size < w11.heap.size := (hown.lt _ rfl).2
      go_wp2_with (at_make; refine wpList_make_full _ rfl _ _ 22 rfl w11.heap.size 5 i0 (.int .u8 0) 1 Try.underlying22 hi hz0 hz1 _ _ _ _ (n + 1) rfl rfl (by omega) (by omega) ?b2 ?b3 (Nat.le_refl _) ?_)
      case b2 => first | (rw [hz2]; omega) | omega
      case b3 => unfold maxLen; omega
      intro wm hownm hgrowm
      have hbm : Below w11.heap.size w11 wm := (Below.refl _ _).grown hgrowm (Nat.le_refl _) (fun k h => by cases h)
      clear hgrowm
      have HCL : Hid (∀ j (hj : j < l.length), w11.cell? ⟨w.heap.size, j, none⟩ = some (.int .u8 (l[j].toNat : Int))) := fun j hj => by
        rw [hown.cellAt j (by have := HL.out; omega), cellsOf_at l j hj]
      go_wp2
      go_loopw [17] (fun kk wr => ∃ (k : Nat) (xs : List Value), k ≤ n ∧ kk = .int .i64 k ∧ wr.ownsRow w11.heap.size 5 1 (.slice (some ⟨w11.heap.size, 0, none⟩) (n + 1) (n + 1)) (n + 1) xs ∧ Hid (xs.take k = cellsOf (l.take k)) ∧ Below w11.heap.size w11 wr) (fun kk _ => n - (intOf kk).toNat)
      case atStart => exact ⟨0, _, Nat.zero_le _, rfl, hownm, rfl, hbm⟩
      case round =>
        clear hownm hbm wm
        obtain ⟨k, xs, hk, rfl, hownl, HT, hnx⟩ := hrel
        by_cases hlt2 : (k : Int) < (n : Int)
        · have hkl : k < l.length := by have := HL.out; omega
          have cl : wr.cell? ⟨w.heap.size, k, none⟩ = some (.int .u8 (l[k].toNat : Int)) := (hnx.cell (p := ⟨w.heap.size, k, none⟩) G0).trans (HCL.out k hkl)
          obtain ⟨ux, cx⟩ : ∃ u, wr.cell? ⟨w11.heap.size, k, none⟩ = some u := ⟨xs[k]'(by have := hownl.1; omega), by rw [hownl.cellAt k (by omega)]; exact List.getElem?_eq_getElem _⟩
          have fz := hownl.frozenAt k
          have R := (hownl.stored k (.int .u8 (l[k].toNat : Int))).1
          have hb2 : Below w11.heap.size w11 (wr.setCell ⟨w11.heap.size, k, none⟩ (.int .u8 (l[k].toNat : Int))) := hnx.setCell (Nat.le_refl _) _
          have HT2 : Hid ((xs.set k (.int .u8 (l[k].toNat : Int))).take (k + 1) = cellsOf (l.take (k + 1))) := by
            unfold Hid; rw [take_set_succ _ _ _ (by have := hownl.1; omega), cellsOf_take l k hkl, HT.out]
          clear HT hownl
          go_wp2
          go_roundw
          case rel => exact ⟨k + 1, _, by omega, by go_num, R, HT2, hb2⟩
          case measure => simp [intOf]; omega
        · obtain rfl : k = n := by omega
          obtain ⟨ux, cx⟩ : ∃ u, wr.cell? ⟨w11.heap.size, k, none⟩ = some u := ⟨xs[k]'(by have := hownl.1; omega), by rw [hownl.cellAt k (by omega)]; exact List.getElem?_eq_getElem _⟩
          have fz := hownl.frozenAt k
          have R := (hownl.stored k (.int .u8 (eb.toNat : Int))).1
          rw [cells_end xs l k eb (by have := hownl.1; omega) HL.out HT.out] at R
          have hb2 : Below w11.heap.size w11 (wr.setCell ⟨w11.heap.size, k, none⟩ (.int .u8 (eb.toNat : Int))) := hnx.setCell (Nat.le_refl _) _
          replace hown := own_below hown hb2
          replace hB := hB.trans (hb2.mono hB.size)
          clear HT hownl hb2 hnx
          go_wp2_with fail
          refine (zzSame_any _ _ _ _ _ _ l _ t t _ (row_of_own hown) (row_of_own R)).mono ?_
          rintro e w12 ⟨rfl, hb12⟩
          rw [same_list (snoc_ne l eb)]
          replace R := own_below R hb12
          replace hown := own_below hown hb12
          replace hB := hB.trans (hb12.mono hB.size)
          clear hb12
          go_wp2_with fail
          refine (zzSame_any _ _ _ _ _ _ _ l t t _ (row_of_own R) (row_of_own hown)).mono ?_
          rintro e w13 ⟨rfl, hb13⟩
          rw [same_list (snoc_ne l eb).symm]
          replace hB := hB.trans (hb13.mono hB.size)
          clear hb13
          go_wp2
          go_ret
          exact ⟨rfl, hB⟩
end Go.Proofs.Qxb6623304a
