/- THE WALK of cloneBytes. -/
import Derived.Test.Qxb6623304aSame
namespace Go.Proofs.Qxb6623304a
open Go.RowKit
set_option linter.unusedVariables false

theorem info5 : (Try.prog.info? 5).map (fun i => (i.zero, i.size, i.bytes)) = some (some (.int .u8 0), 1, 1) := by kernel_rfl

/-- the bytes as cells -/
def cellsOf (l : List UInt8) : List Value := l.map fun b => Value.int .u8 (b.toNat : Int)
theorem cellsOf_length (l : List UInt8) : (cellsOf l).length = l.length := by simp [cellsOf]
theorem cellsOf_at (l : List UInt8) (j : Nat) (hj : j < l.length) : (cellsOf l)[j]? = some (Value.int .u8 (l[j].toNat : Int)) := by simp [cellsOf, hj]
theorem cellsOf_take (l : List UInt8) (k : Nat) (hk : k < l.length) : cellsOf (l.take (k + 1)) = cellsOf (l.take k) ++ [Value.int .u8 (l[k].toNat : Int)] := by
  unfold cellsOf; rw [List.take_succ_eq_append_getElem hk, List.map_append]; rfl

theorem take_set_succ (xs : List Value) (k : Nat) (u : Value) (hk : k < xs.length) : (xs.set k u).take (k + 1) = xs.take k ++ [u] := by
  rw [List.take_succ_eq_append_getElem (by simpa using hk), List.take_set, List.set_eq_of_length_le (by simp; omega)]
  simp

/-- owned bytes read as a row -/
theorem row_of_own {w : World} {base g n cap : Nat} {l : List UInt8} (h : w.ownsRow base 5 1 (.slice (some ⟨g, 0, none⟩) n cap) n (cellsOf l)) : Row w (some ⟨g, 0, none⟩) n cap l := by
  have hl := h.1
  rw [cellsOf_length, Nat.mul_one] at hl
  refine ⟨hl.symm, .inr ⟨g, rfl, (h.lt g rfl).2, ?_, fun j hj => ?_⟩⟩
  · rcases h.2 with ⟨h', _⟩ | ⟨g', cap', cur, h', _, _, hnc, _⟩
    · simp at h'
    · simp only [Value.slice.injEq] at h'; omega
  · rw [h.cellAt j (by omega), cellsOf_at l j hj]
theorem own_below {w w' : World} {base g n cap : Nat} {xs : List Value} (h : w.ownsRow base 5 1 (.slice (some ⟨g, 0, none⟩) n cap) n xs) (hb : Below w.heap.size w w') : w'.ownsRow base 5 1 (.slice (some ⟨g, 0, none⟩) n cap) n xs := by
  have hlt := (h.lt g rfl).2
  refine ⟨h.1, ?_⟩
  rcases h.2 with h' | ⟨g', cap', cur, h', h1, h2, h3⟩
  · exact .inl h'
  · have e : g = g' := by simp only [Value.slice.injEq, Option.some.injEq, Addr.mk.injEq] at h'; exact h'.1.1
    subst e
    exact .inr ⟨g, cap', cur, h', h1, by rw [hb.block g hlt]; exact h2, h3⟩

set_option maxHeartbeats 400000 in
theorem clone_nil (w : World) :
    Calls Try.prog 5 #[.slice none 0 0] w fun e w' => e = .returned (.slice none 0 0) ∧ w = w' := by
  have hnil := fun (W : World) => Lib.run_eql_slice_nil (P := Try.prog) W 22 5 none 0 0 0 0 Try.underlying22
  go_enter Try.func5, Try.ntmps5
  go_wp2
  go_ret
  exact ⟨rfl, rfl⟩

set_option maxHeartbeats 800000 in
theorem clone_some (b n c : Nat) (l : List UInt8) (w : World) (h : Row w (some ⟨b, 0, none⟩) n c l) (hn : n ≤ 1048576) :
    Calls Try.prog 5 #[.slice (some ⟨b, 0, none⟩) n c] w fun e w' => e = .returned (.slice (some ⟨w.heap.size, 0, none⟩) n n) ∧
      w'.ownsRow w.heap.size 5 1 (.slice (some ⟨w.heap.size, 0, none⟩) n n) n (cellsOf l) ∧ Below w.heap.size w w' := by
  have hnil := fun (W : World) => Lib.run_eql_slice_nil (P := Try.prog) W 22 5 (some ⟨b, 0, none⟩) n c 0 0 Try.underlying22
  obtain ⟨i0, hi, hz0, hz1, hz2⟩ := info_parts info5
  obtain ⟨hl, h2⟩ := h
  rcases h2 with ⟨h', _⟩ | ⟨b', e, hlt, hc, hx⟩
  · cases h'
  · have e' : b = b' := by simpa using e
    subst e'
    have hl1 : n ≤ l.length := by omega
    have hl2 : l.length ≤ n := by omega
    clear e hl
    go_enter Try.func5, Try.ntmps5
    go_wp2_with (at_make; refine wpList_make_full _ rfl _ _ 22 rfl w.heap.size 5 i0 (.int .u8 0) 1 Try.underlying22 hi hz0 hz1 _ _ _ _ n rfl rfl rfl rfl ?b2 ?b3 (Nat.le_refl _) ?_)
    case b2 => rw [hz2]; omega
    case b3 => unfold maxLen; omega
    intro w1 hown0 hgrow0
    have hb0 : Below w.heap.size w w1 := (Below.refl _ _).grown hgrow0 (Nat.le_refl _) (fun k h => by cases h)
    clear hgrow0 hnil
    go_wp2
    go_loopw [4] (fun kk wr => ∃ (k : Nat) (xs : List Value), k ≤ n ∧ kk = .int .i64 k ∧ wr.ownsRow w.heap.size 5 1 (.slice (some ⟨w.heap.size, 0, none⟩) n n) n xs ∧ Hid (xs.take k = cellsOf (l.take k)) ∧ Below w.heap.size w wr) (fun kk _ => n - (intOf kk).toNat)
    case atStart => exact ⟨0, _, Nat.zero_le _, rfl, hown0, rfl, hb0⟩
    case round =>
      clear hown0 hb0 w1
      obtain ⟨k, xs, hk, rfl, hown, HT, hnx⟩ := hrel
      have hxl : xs.length = n := by have := hown.1; omega
      by_cases hlt2 : (k : Int) < (n : Int)
      · have hkl : k < l.length := by omega
        have cl : wr.cell? ⟨b, k, none⟩ = some (.int .u8 (l[k].toNat : Int)) := (hnx.cell (p := ⟨b, k, none⟩) hlt).trans (hx k hkl)
        obtain ⟨ux, cx⟩ : ∃ u, wr.cell? ⟨w.heap.size, k, none⟩ = some u := ⟨xs[k]'(by omega), by rw [hown.cellAt k (by omega)]; exact List.getElem?_eq_getElem _⟩
        have fz := hown.frozenAt k
        have R := (hown.stored k (.int .u8 (l[k].toNat : Int))).1
        have hb2 : Below w.heap.size w (wr.setCell ⟨w.heap.size, k, none⟩ (.int .u8 (l[k].toNat : Int))) := hnx.setCell (Nat.le_refl _) _
        have HT2 : Hid ((xs.set k (.int .u8 (l[k].toNat : Int))).take (k + 1) = cellsOf (l.take (k + 1))) := by
          unfold Hid; rw [take_set_succ _ _ _ (by omega), cellsOf_take l k hkl, HT.out]
        clear HT hown hxl
        go_wp2
        go_roundw
        case rel => exact ⟨k + 1, _, by omega, by go_num, R, HT2, hb2⟩
        case measure => simp [intOf]; omega
      · obtain rfl : k = n := by omega
        have hfin : xs = cellsOf l := by
          have := HT.out
          rw [List.take_of_length_le (by omega), List.take_of_length_le (by omega)] at this
          exact this
        subst hfin
        go_wp2
        go_ret
        exact ⟨rfl, hown, hnx⟩
end Go.Proofs.Qxb6623304a
