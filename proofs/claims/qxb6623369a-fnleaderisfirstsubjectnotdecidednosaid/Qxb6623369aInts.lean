/- THE WALKS of copyInts, sameInts, the length bound. -/
import Derived.Test.Qxb6623369aRows
import Derived.WalkKit
import Derived.WalkSpells
import Derived.ProofKit
import Derived.BigQuiet
namespace Go.Proofs.Qxb6623369a
open Go.RowKit
set_option linter.unusedVariables false

theorem hideI {p : Prop} (h : p) : Hid p := h
theorem ret_bool {a b : Bool} (h : a = b) : Ending.returned (.bool a) = .returned (.bool b) := by rw [h]
theorem info3 : (Try.prog.info? 3).map (fun i => (i.zero, i.size, i.bytes)) = some (some (.int .i64 0), 1, 8) := by kernel_rfl

/-- the slice '.slice a n _' has the elements r 0, .., r (n - 1), at block b from off on -/
def Ints (w : World) (a : Option Addr) (b off n : Nat) (r : Nat → Int) : Prop :=
  (0 < n → a = some ⟨b, off, none⟩ ∧ b < w.heap.size) ∧ ∀ j, j < n → w.cell? ⟨b, off + j, none⟩ = some (.int .i64 (r j))

theorem Ints.below {w w' : World} {a : Option Addr} {b off n : Nat} {r : Nat → Int} (h : Ints w a b off n r) (hb : Below w.heap.size w w') : Ints w' a b off n r :=
  ⟨fun h0 => ⟨(h.1 h0).1, Nat.lt_of_lt_of_le (h.1 h0).2 hb.size⟩, fun j hj => (hb.cell (p := ⟨b, off + j, none⟩) (h.1 (by omega)).2).trans (h.2 j hj)⟩

theorem take_set_succ (xs : List Value) (k : Nat) (u : Value) (hk : k < xs.length) : (xs.set k u).take (k + 1) = xs.take k ++ [u] := by
  rw [List.take_succ_eq_append_getElem (by simpa using hk), List.take_set, List.set_eq_of_length_le (by simp; omega)]
  simp

theorem own_ints {w : World} {g n cap : Nat} {xs : List Value} {r : Nat → Int} (h : w.ownsRow g 3 1 (.slice (some ⟨g, 0, none⟩) n cap) n xs) (hx : ∀ j, j < n → xs[j]? = some (.int .i64 (r j))) : Ints w (some ⟨g, 0, none⟩) g 0 n r :=
  ⟨fun _ => ⟨rfl, (h.lt g rfl).2⟩, fun j hj => by rw [Nat.zero_add, h.cellAt j (by omega)]; exact hx j hj⟩

/-- e hands back a slice of its own with the elements r -/
def Copied (e : Ending) (w w' : World) (n : Nat) (r : Nat → Int) : Prop := (∃ a' c', e = .returned (.slice a' n c') ∧ Ints w' a' w.heap.size 0 n r) ∧ Below w.heap.size w w'

set_option maxHeartbeats 800000 in
theorem copy_any (a : Option Addr) (b off n c : Nat) (r : Nat → Int) (w : World) (hI : Ints w a b off n r) (hz : a = none → n = 0 ∧ c = 0) (hn : n ≤ 1048576) :
    Calls Try.prog 5 #[.slice a n c] w fun e w' => Copied e w w' n r := by
  have hnil := fun (W : World) => Lib.run_eql_slice_nil (P := Try.prog) W 22 3 a n c 0 0 Try.underlying22
  cases a with
  | none =>
    obtain ⟨rfl, rfl⟩ := hz rfl
    clear hz hI
    go_enter Try.func5, Try.ntmps5
    go_wp2
    go_ret
    exact ⟨⟨none, 0, rfl, fun h => absurd h (Nat.lt_irrefl _), fun j hj => absurd hj (Nat.not_lt_zero _)⟩, Below.refl _ _⟩
  | some x =>
    obtain ⟨i0, hi, hz0, hz1, hz2⟩ := info_parts info3
    have HI := hideI hI
    clear hz hI
    go_enter Try.func5, Try.ntmps5
    go_wp2_with (at_make; refine wpList_make_full _ rfl _ _ 22 rfl w.heap.size 3 i0 (.int .i64 0) 1 Try.underlying22 hi hz0 hz1 _ _ _ _ n rfl rfl rfl rfl ?b2 ?b3 (Nat.le_refl _) ?_)
    case b2 => rw [hz2]; omega
    case b3 => unfold maxLen; omega
    intro w1 hown0 hgrow0
    have hb0 : Below w.heap.size w w1 := (Below.refl _ _).grown hgrow0 (Nat.le_refl _) (fun k h => by cases h)
    clear hgrow0 hnil
    go_wp2
    go_loopw [4] (fun kk wr => ∃ (k : Nat) (xs : List Value), k ≤ n ∧ kk = .int .i64 k ∧ wr.ownsRow w.heap.size 3 1 (.slice (some ⟨w.heap.size, 0, none⟩) n n) n xs ∧ Hid (∀ j, j < k → xs[j]? = some (.int .i64 (r j))) ∧ Below w.heap.size w wr) (fun kk _ => n - (intOf kk).toNat)
    case atStart => exact ⟨0, _, Nat.zero_le _, rfl, hown0, fun j hj => absurd hj (Nat.not_lt_zero _), hb0⟩
    case round =>
      clear hown0 hb0 w1
      obtain ⟨k, xs, hk, rfl, hown, HT, hnx⟩ := hrel
      by_cases hlt2 : (k : Int) < (n : Int)
      · obtain ⟨e, hbw⟩ := HI.out.1 (by omega)
        obtain rfl := Option.some.inj e
        clear e
        have cl : wr.cell? ⟨b, off + k, none⟩ = some (.int .i64 (r k)) := (hnx.cell (p := ⟨b, off + k, none⟩) hbw).trans (HI.out.2 k (by omega))
        obtain ⟨ux, cx⟩ : ∃ u, wr.cell? ⟨w.heap.size, k, none⟩ = some u := ⟨xs[k]'(by have := hown.1; omega), by rw [hown.cellAt k (by omega)]; exact List.getElem?_eq_getElem _⟩
        have fz := hown.frozenAt k
        have R := (hown.stored k (.int .i64 (r k))).1
        have hb2 : Below w.heap.size w (wr.setCell ⟨w.heap.size, k, none⟩ (.int .i64 (r k))) := hnx.setCell (Nat.le_refl _) _
        have HT2 : Hid (∀ j, j < k + 1 → (xs.set k (.int .i64 (r k)))[j]? = some (.int .i64 (r j))) := fun j hj => by
          by_cases e : j = k
          · subst e; exact List.getElem?_set_self (by have := hown.1; omega)
          · rw [List.getElem?_set_ne (by omega)]; exact HT.out j (by omega)
        clear HT hown
        go_wp2
        go_roundw
        case rel => exact ⟨k + 1, _, by omega, by go_num, R, HT2, hb2⟩
        case measure => simp [intOf]; omega
      · obtain rfl : k = n := by omega
        go_wp2
        go_ret
        exact ⟨⟨_, _, rfl, own_ints hown HT.out⟩, hnx⟩

set_option maxHeartbeats 800000 in
theorem same_any (a1 a2 : Option Addr) (b1 o1 b2 o2 n c1 c2 : Nat) (r : Nat → Int) (w : World) (h1 : Ints w a1 b1 o1 n r) (h2 : Ints w a2 b2 o2 n r) (hn : n ≤ 1048576) :
    Calls Try.prog 7 #[.slice a1 n c1, .slice a2 n c2] w fun e w' => e = .returned (.bool true) ∧ Below w.heap.size w w' := by
  have H1 := hideI h1
  have H2 := hideI h2
  clear h1 h2
  go_enter Try.func7, Try.ntmps7
  go_wp2
  go_loopw [5] (fun kk wr => ∃ k : Nat, k ≤ n ∧ kk = .int .i64 k ∧ Below w.heap.size w wr) (fun kk _ => n - (intOf kk).toNat)
  case atStart => exact ⟨0, Nat.zero_le _, rfl, Below.refl _ _⟩
  case round =>
    obtain ⟨k, hk, rfl, hnx⟩ := hrel
    by_cases hlt : (k : Int) < (n : Int)
    · obtain ⟨rfl, w1⟩ := H1.out.1 (by omega)
      obtain ⟨rfl, w2⟩ := H2.out.1 (by omega)
      have p1 : wr.cell? ⟨b1, o1 + k, none⟩ = some (.int .i64 (r k)) := (hnx.cell (p := ⟨b1, o1 + k, none⟩) w1).trans (H1.out.2 k (by omega))
      have p2 : wr.cell? ⟨b2, o2 + k, none⟩ = some (.int .i64 (r k)) := (hnx.cell (p := ⟨b2, o2 + k, none⟩) w2).trans (H2.out.2 k (by omega))
      go_wp2_with fail
      go_quiet (fail)
      go_wp2
      go_roundw
      case rel => exact ⟨k + 1, by omega, by go_num, ⟨hnx.os, hnx.tape, hnx.output, hnx.size, hnx.block⟩⟩
      case measure => simp [intOf]; omega
    · go_wp2
      go_ret
      exact ⟨rfl, hnx⟩
end Go.Proofs.Qxb6623369a
