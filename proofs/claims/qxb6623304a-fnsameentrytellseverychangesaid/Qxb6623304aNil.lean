/- FnSameEntryTellsEveryChange: the walk where v is nil; the walk whole. -/
import Derived.Test.Qxb6623304aBig
namespace Go.Proofs.Qxb6623304a
open Go.RowKit
set_option linter.unusedVariables false

set_option maxRecDepth 100000 in
set_option maxHeartbeats 1600000 in
theorem bigNil (t d i : Int) (xu eb : UInt8) (w : World) (ht1 : 0 ≤ t) (ht2 : t < 18446744073709551616) (hd1 : 0 ≤ d) (hd2 : d < 18446744073709551616) :
    Calls Try.prog 3 #[.slice none 0 0, .int .u64 t, .int .u64 d, .int .i64 i, .int .u8 (xu.toNat : Int), .int .u8 (eb.toNat : Int)] w fun e w' => e = .returned (.bool true) ∧ Below w.heap.size w w' := by
  have hd : decide (((0 : Nat) : Int) ≤ 1048576) = true := by decide
  have hnil := fun (W : World) => run_neq_slice_nil_any (P := Try.prog) W 22 5 none 0 0 0 0 Try.underlying22
  obtain ⟨i0, hi, hz0, hz1, hz2⟩ := info_parts info5
  have HB2 : i0.bytes * 1 ≤ 281474976710656 := by rw [hz2]; omega
  have HB3 : 1 ≤ maxLen := by unfold maxLen; omega
  go_enter Try.func3, Try.ntmps3
  go_wp2_with (go_at_call 4; refine (bytes_any none 0 0 t d i _ _ _ (Nat.zero_le _)).mono ?_; rintro e w' ⟨rfl, rfl⟩)
  clear hnil
  refine (clone_nil _).mono ?_
  rintro e w1 ⟨rfl, rfl⟩
  go_wp2_with fail
  refine (zzSame_any _ _ _ _ _ _ [] [] t t _ (row_nil _) (row_nil _)).mono ?_
  rintro e w1 ⟨rfl, hb1⟩
  rw [same_refl]
  go_wp2_with fail
  refine (zzSame_any _ _ _ _ _ _ [] [] t t _ (row_nil _) (row_nil _)).mono ?_
  rintro e w2 ⟨rfl, hb2⟩
  rw [same_refl]
  have hB : Below w.heap.size w w2 := hb1.trans (hb2.mono hb1.size)
  clear hb1 hb2
  go_wp2_with fail
  refine (zzSame_any _ _ _ _ _ _ [] [] t t _ (row_nil _) (row_empty _)).mono ?_
  rintro e w3 ⟨rfl, hb3⟩
  rw [same_refl]
  replace hB := (hB.alloc hB.size (.cells #[] 5)).trans (hb3.mono (by simp; have := hB.size; omega))
  clear hb3
  by_cases hdd : d = 0
  · have hdq : (d != 0) = false := by simpa using hdd
    clear hdd
    have GW : w.heap.size ≤ w3.heap.size := hB.size
    by_cases hi0 : i < 0
    · have hi1 : ¬ 0 ≤ i := by omega
      go_wp2_with (at_make; refine wpList_make_full _ rfl _ _ 22 rfl w3.heap.size 5 i0 (.int .u8 0) 1 Try.underlying22 hi hz0 hz1 _ _ _ _ 1 rfl rfl rfl rfl HB2 HB3 (Nat.le_refl _) ?_)
      intro wm hownm hgrowm
      have hbm : Below w3.heap.size w3 wm := (Below.refl _ _).grown hgrowm (Nat.le_refl _) (fun k h => by cases h)
      clear hgrowm
      obtain ⟨mc, hmc⟩ : ∃ mc, wm.ownsRow w3.heap.size 5 1 (.slice (some ⟨w3.heap.size, 0, none⟩) 1 1) 1 mc := ⟨_, hownm⟩
      clear hownm
      replace hB := hB.trans (hbm.mono hB.size)
      go_wp2
      go_loopw [17] (fun kk wr => kk = .int .i64 0 ∧ wr = wm) (fun _ _ => 0)
      case atStart => exact ⟨rfl, rfl⟩
      case round =>
        obtain ⟨rfl, rfl⟩ := hrel
        obtain ⟨ux, cx⟩ : ∃ u, wr.cell? ⟨w3.heap.size, 0, none⟩ = some u := ⟨mc[0]'(by have := hmc.1; omega), by rw [hmc.cellAt 0 (by omega)]; exact List.getElem?_eq_getElem _⟩
        have fz := hmc.frozenAt 0
        have R := (hmc.stored 0 (.int .u8 (eb.toNat : Int))).1
        rw [cells_end mc [] 0 eb (by have := hmc.1; omega) rfl rfl] at R
        replace hB := hB.setCell (p := ⟨w3.heap.size, 0, none⟩) GW (.int .u8 (eb.toNat : Int))
        clear hmc hbm
        go_wp2_with fail
        refine (zzSame_any _ _ _ _ _ _ [] _ t t _ (row_nil _) (row_of_own R)).mono ?_
        rintro e w12 ⟨rfl, hb12⟩
        rw [same_list (snoc_ne [] eb)]
        replace R := own_below R hb12
        replace hB := hB.trans (hb12.mono hB.size)
        clear hb12
        go_wp2_with fail
        refine (zzSame_any _ _ _ _ _ _ _ [] t t _ (row_of_own R) (row_nil _)).mono ?_
        rintro e w13 ⟨rfl, hb13⟩
        rw [same_list (snoc_ne [] eb).symm]
        replace hB := hB.trans (hb13.mono hB.size)
        clear hb13
        go_wp2
        go_ret
        exact ⟨rfl, hB⟩
    · have hi1 : 0 ≤ i := by omega
      go_wp2_with (at_make; refine wpList_make_full _ rfl _ _ 22 rfl w3.heap.size 5 i0 (.int .u8 0) 1 Try.underlying22 hi hz0 hz1 _ _ _ _ 1 rfl rfl rfl rfl HB2 HB3 (Nat.le_refl _) ?_)
      intro wm hownm hgrowm
      have hbm : Below w3.heap.size w3 wm := (Below.refl _ _).grown hgrowm (Nat.le_refl _) (fun k h => by cases h)
      clear hgrowm
      obtain ⟨mc, hmc⟩ : ∃ mc, wm.ownsRow w3.heap.size 5 1 (.slice (some ⟨w3.heap.size, 0, none⟩) 1 1) 1 mc := ⟨_, hownm⟩
      clear hownm
      replace hB := hB.trans (hbm.mono hB.size)
      go_wp2
      go_loopw [17] (fun kk wr => kk = .int .i64 0 ∧ wr = wm) (fun _ _ => 0)
      case atStart => exact ⟨rfl, rfl⟩
      case round =>
        obtain ⟨rfl, rfl⟩ := hrel
        obtain ⟨ux, cx⟩ : ∃ u, wr.cell? ⟨w3.heap.size, 0, none⟩ = some u := ⟨mc[0]'(by have := hmc.1; omega), by rw [hmc.cellAt 0 (by omega)]; exact List.getElem?_eq_getElem _⟩
        have fz := hmc.frozenAt 0
        have R := (hmc.stored 0 (.int .u8 (eb.toNat : Int))).1
        rw [cells_end mc [] 0 eb (by have := hmc.1; omega) rfl rfl] at R
        replace hB := hB.setCell (p := ⟨w3.heap.size, 0, none⟩) GW (.int .u8 (eb.toNat : Int))
        clear hmc hbm
        go_wp2_with fail
        refine (zzSame_any _ _ _ _ _ _ [] _ t t _ (row_nil _) (row_of_own R)).mono ?_
        rintro e w12 ⟨rfl, hb12⟩
        rw [same_list (snoc_ne [] eb)]
        replace R := own_below R hb12
        replace hB := hB.trans (hb12.mono hB.size)
        clear hb12
        go_wp2_with fail
        refine (zzSame_any _ _ _ _ _ _ _ [] t t _ (row_of_own R) (row_nil _)).mono ?_
        rintro e w13 ⟨rfl, hb13⟩
        rw [same_list (snoc_ne [] eb).symm]
        replace hB := hB.trans (hb13.mono hB.size)
        clear hb13
        go_wp2
        go_ret
        exact ⟨rfl, hB⟩
  · have HX : Hid (t ≠ bits .xor .u64 t d) := xor_tag t d ht1 ht2 hd1 hd2 hdd
    have hdq : (d != 0) = true := bne_iff_ne.2 hdd
    clear hdd
    go_wp2_with fail
    refine (zzSame_any _ _ _ _ _ _ [] [] t _ _ (row_nil _) (row_nil _)).mono ?_
    rintro e w7 ⟨rfl, hb7⟩
    rw [same_tag [] HX.out]
    replace hB := hB.trans (hb7.mono hB.size)
    clear hb7
    go_wp2_with fail
    refine (zzSame_any _ _ _ _ _ _ [] [] _ t _ (row_nil _) (row_nil _)).mono ?_
    rintro e w8 ⟨rfl, hb8⟩
    rw [same_tag [] HX.out.symm]
    replace hB := hB.trans (hb8.mono hB.size)
    clear hb8
    have GW : w.heap.size ≤ w8.heap.size := hB.size
    by_cases hi0 : i < 0
    · have hi1 : ¬ 0 ≤ i := by omega
      go_wp2_with (at_make; refine wpList_make_full _ rfl _ _ 22 rfl w8.heap.size 5 i0 (.int .u8 0) 1 Try.underlying22 hi hz0 hz1 _ _ _ _ 1 rfl rfl rfl rfl HB2 HB3 (Nat.le_refl _) ?_)
      intro wm hownm hgrowm
      have hbm : Below w8.heap.size w8 wm := (Below.refl _ _).grown hgrowm (Nat.le_refl _) (fun k h => by cases h)
      clear hgrowm
      obtain ⟨mc, hmc⟩ : ∃ mc, wm.ownsRow w8.heap.size 5 1 (.slice (some ⟨w8.heap.size, 0, none⟩) 1 1) 1 mc := ⟨_, hownm⟩
      clear hownm
      replace hB := hB.trans (hbm.mono hB.size)
      go_wp2
      go_loopw [17] (fun kk wr => kk = .int .i64 0 ∧ wr = wm) (fun _ _ => 0)
      case atStart => exact ⟨rfl, rfl⟩
      case round =>
        obtain ⟨rfl, rfl⟩ := hrel
        obtain ⟨ux, cx⟩ : ∃ u, wr.cell? ⟨w8.heap.size, 0, none⟩ = some u := ⟨mc[0]'(by have := hmc.1; omega), by rw [hmc.cellAt 0 (by omega)]; exact List.getElem?_eq_getElem _⟩
        have fz := hmc.frozenAt 0
        have R := (hmc.stored 0 (.int .u8 (eb.toNat : Int))).1
        rw [cells_end mc [] 0 eb (by have := hmc.1; omega) rfl rfl] at R
        replace hB := hB.setCell (p := ⟨w8.heap.size, 0, none⟩) GW (.int .u8 (eb.toNat : Int))
        clear hmc hbm
        go_wp2_with fail
        refine (zzSame_any _ _ _ _ _ _ [] _ t t _ (row_nil _) (row_of_own R)).mono ?_
        rintro e w12 ⟨rfl, hb12⟩
        rw [same_list (snoc_ne [] eb)]
        replace R := own_below R hb12
        replace hB := hB.trans (hb12.mono hB.size)
        clear hb12
        go_wp2_with fail
        refine (zzSame_any _ _ _ _ _ _ _ [] t t _ (row_of_own R) (row_nil _)).mono ?_
        rintro e w13 ⟨rfl, hb13⟩
        rw [same_list (snoc_ne [] eb).symm]
        replace hB := hB.trans (hb13.mono hB.size)
        clear hb13
        go_wp2
        go_ret
        exact ⟨rfl, hB⟩
    · have hi1 : 0 ≤ i := by omega
      go_wp2_with (at_make; refine wpList_make_full _ rfl _ _ 22 rfl w8.heap.size 5 i0 (.int .u8 0) 1 Try.underlying22 hi hz0 hz1 _ _ _ _ 1 rfl rfl rfl rfl HB2 HB3 (Nat.le_refl _) ?_)
      intro wm hownm hgrowm
      have hbm : Below w8.heap.size w8 wm := (Below.refl _ _).grown hgrowm (Nat.le_refl _) (fun k h => by cases h)
      clear hgrowm
      obtain ⟨mc, hmc⟩ : ∃ mc, wm.ownsRow w8.heap.size 5 1 (.slice (some ⟨w8.heap.size, 0, none⟩) 1 1) 1 mc := ⟨_, hownm⟩
      clear hownm
      replace hB := hB.trans (hbm.mono hB.size)
      go_wp2
      go_loopw [17] (fun kk wr => kk = .int .i64 0 ∧ wr = wm) (fun _ _ => 0)
      case atStart => exact ⟨rfl, rfl⟩
      case round =>
        obtain ⟨rfl, rfl⟩ := hrel
        obtain ⟨ux, cx⟩ : ∃ u, wr.cell? ⟨w8.heap.size, 0, none⟩ = some u := ⟨mc[0]'(by have := hmc.1; omega), by rw [hmc.cellAt 0 (by omega)]; exact List.getElem?_eq_getElem _⟩
        have fz := hmc.frozenAt 0
        have R := (hmc.stored 0 (.int .u8 (eb.toNat : Int))).1
        rw [cells_end mc [] 0 eb (by have := hmc.1; omega) rfl rfl] at R
        replace hB := hB.setCell (p := ⟨w8.heap.size, 0, none⟩) GW (.int .u8 (eb.toNat : Int))
        clear hmc hbm
        go_wp2_with fail
        refine (zzSame_any _ _ _ _ _ _ [] _ t t _ (row_nil _) (row_of_own R)).mono ?_
        rintro e w12 ⟨rfl, hb12⟩
        rw [same_list (snoc_ne [] eb)]
        replace R := own_below R hb12
        replace hB := hB.trans (hb12.mono hB.size)
        clear hb12
        go_wp2_with fail
        refine (zzSame_any _ _ _ _ _ _ _ [] t t _ (row_of_own R) (row_nil _)).mono ?_
        rintro e w13 ⟨rfl, hb13⟩
        rw [same_list (snoc_ne [] eb).symm]
        replace hB := hB.trans (hb13.mono hB.size)
        clear hb13
        go_wp2
        go_ret
        exact ⟨rfl, hB⟩
end Go.Proofs.Qxb6623304a
