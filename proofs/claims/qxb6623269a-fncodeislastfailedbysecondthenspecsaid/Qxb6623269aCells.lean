/- Seven cells written in a row; the length bound. -/
import Derived.Test.Qxb6623269aLastF
import Derived.OpenShut
namespace Go.Proofs.Qxb6623269a
open Go.RowKit
set_option linter.unusedVariables false

theorem info34 : (Try.prog.info? 34).map (fun i => (i.zero, i.size, i.bytes)) = some (some (.agg #[.int .i32 0, .int .u64 0, .int .i64 0, .pointer none, .int .u64 0, .int .i64 0, .pointer none]), 7, 56) := by kernel_rfl

theorem bytes_any (a : Option Addr) (n c : Nat) (w : World) (hn : n ≤ maxLen) :
    Calls Try.prog 4 #[.slice a n c] w fun e w' => e = .returned (.bool (decide ((n : Int) ≤ 1048576))) ∧ w = w' := by
  unfold maxLen at hn
  by_cases h : 1048576 < (n : Int)
  · go_enter Try.func4, Try.ntmps4
    go_wp2
    go_ret
    exact ⟨by rw [decide_eq_false (by omega)]; rfl, rfl⟩
  · go_enter Try.func4, Try.ntmps4
    go_wp2
    go_ret
    exact ⟨rfl, rfl⟩

/-- seven cells written in a row -/
def set7 (W : World) (g o : Nat) (e : Int) (wl s : Int) : World :=
  ((((((W.setCell ⟨g, o, none⟩ (.int .i32 e)).setCell ⟨g, o + 1, none⟩ (.int .u64 0)).setCell ⟨g, o + 2, none⟩ (.int .i64 0)).setCell ⟨g, o + 3, none⟩ (.pointer none)).setCell ⟨g, o + 4, none⟩ (.int .u64 wl)).setCell ⟨g, o + 5, none⟩ (.int .i64 s)).setCell ⟨g, o + 6, none⟩ (.pointer none)

theorem far (X : World) (g h o p : Nat) (x : Value) (hne : ¬ (g = h ∧ o = p)) : (X.setCell ⟨g, o, none⟩ x).cell? ⟨h, p, none⟩ = X.cell? ⟨h, p, none⟩ :=
  World.cell?_setCell_other _ _ _ _ (fun e => hne ⟨congrArg Addr.block e, congrArg Addr.off e⟩)
theorem set7_other (W : World) (g h o p : Nat) (e wl s : Int) (hne : ¬ (g = h ∧ o ≤ p ∧ p < o + 7)) : (set7 W g o e wl s).cell? ⟨h, p, none⟩ = W.cell? ⟨h, p, none⟩ := by
  unfold set7
  rw [far _ _ _ _ _ _ (by omega), far _ _ _ _ _ _ (by omega), far _ _ _ _ _ _ (by omega), far _ _ _ _ _ _ (by omega), far _ _ _ _ _ _ (by omega), far _ _ _ _ _ _ (by omega), far _ _ _ _ _ _ (by omega)]
theorem setc (X : World) (g o : Nat) (x : Value) (h : ∃ v, X.cell? ⟨g, o, none⟩ = some v) : (X.setCell ⟨g, o, none⟩ x).cell? ⟨g, o, none⟩ = some x := by
  obtain ⟨v, hv⟩ := h
  exact World.cell?_setCell_same _ _ _ hv
theorem set7_elt (W : World) (g j : Nat) (e wl s : Int) (h : ∀ f, f < 7 → ∃ v, W.cell? ⟨g, j * 7 + f, none⟩ = some v) : Elt (set7 W g (j * 7) e wl s) g j e wl s := by
  have h0 : ∃ v, W.cell? ⟨g, j * 7, none⟩ = some v := h 0 (by omega)
  unfold set7 Elt
  refine ⟨?_, ?_, ?_, ?_, ?_, ?_, ?_⟩
  · rw [far _ _ _ _ _ _ (by omega), far _ _ _ _ _ _ (by omega), far _ _ _ _ _ _ (by omega), far _ _ _ _ _ _ (by omega), far _ _ _ _ _ _ (by omega), far _ _ _ _ _ _ (by omega)]
    exact setc _ _ _ _ h0
  · rw [far _ _ _ _ _ _ (by omega), far _ _ _ _ _ _ (by omega), far _ _ _ _ _ _ (by omega), far _ _ _ _ _ _ (by omega), far _ _ _ _ _ _ (by omega)]
    exact setc _ _ _ _ (by rw [far _ _ _ _ _ _ (by omega)]; exact h 1 (by omega))
  · rw [far _ _ _ _ _ _ (by omega), far _ _ _ _ _ _ (by omega), far _ _ _ _ _ _ (by omega), far _ _ _ _ _ _ (by omega)]
    exact setc _ _ _ _ (by rw [far _ _ _ _ _ _ (by omega), far _ _ _ _ _ _ (by omega)]; exact h 2 (by omega))
  · rw [far _ _ _ _ _ _ (by omega), far _ _ _ _ _ _ (by omega), far _ _ _ _ _ _ (by omega)]
    exact setc _ _ _ _ (by rw [far _ _ _ _ _ _ (by omega), far _ _ _ _ _ _ (by omega), far _ _ _ _ _ _ (by omega)]; exact h 3 (by omega))
  · rw [far _ _ _ _ _ _ (by omega), far _ _ _ _ _ _ (by omega)]
    exact setc _ _ _ _ (by rw [far _ _ _ _ _ _ (by omega), far _ _ _ _ _ _ (by omega), far _ _ _ _ _ _ (by omega), far _ _ _ _ _ _ (by omega)]; exact h 4 (by omega))
  · rw [far _ _ _ _ _ _ (by omega)]
    exact setc _ _ _ _ (by rw [far _ _ _ _ _ _ (by omega), far _ _ _ _ _ _ (by omega), far _ _ _ _ _ _ (by omega), far _ _ _ _ _ _ (by omega), far _ _ _ _ _ _ (by omega)]; exact h 5 (by omega))
  · exact setc _ _ _ _ (by rw [far _ _ _ _ _ _ (by omega), far _ _ _ _ _ _ (by omega), far _ _ _ _ _ _ (by omega), far _ _ _ _ _ _ (by omega), far _ _ _ _ _ _ (by omega), far _ _ _ _ _ _ (by omega)]; exact h 6 (by omega))
theorem set7_below {B : Nat} {w W : World} {g o : Nat} {e wl s : Int} (h : Below B w W) (hg : B ≤ g) : Below B w (set7 W g o e wl s) :=
  ((((((h.setCell hg _).setCell hg _).setCell hg _).setCell hg _).setCell hg _).setCell hg _).setCell hg _
theorem set7_frozen (W : World) (g o p : Nat) (e wl s : Int) : (set7 W g o e wl s).frozen? ⟨g, p, none⟩ = W.frozen? ⟨g, p, none⟩ := by
  unfold set7
  rw [World.frozen?_setCell, World.frozen?_setCell, World.frozen?_setCell, World.frozen?_setCell, World.frozen?_setCell, World.frozen?_setCell, World.frozen?_setCell]
theorem set7_size (W : World) (g o : Nat) (e wl s : Int) : (set7 W g o e wl s).heap.size = W.heap.size := by
  unfold set7; simp [World.setCell]
theorem set7_some (W : World) (g j o : Nat) (e wl s : Int) (h : ∀ f, f < 7 → ∃ v, W.cell? ⟨g, j * 7 + f, none⟩ = some v) (ho : ∃ v, W.cell? ⟨g, o, none⟩ = some v) : ∃ v, (set7 W g (j * 7) e wl s).cell? ⟨g, o, none⟩ = some v := by
  by_cases hc : j * 7 ≤ o ∧ o < j * 7 + 7
  · obtain ⟨f, rfl⟩ : ∃ f, o = j * 7 + f := ⟨o - j * 7, by omega⟩
    obtain ⟨a0, a1, a2, a3, a4, a5, a6⟩ := set7_elt W g j e wl s h
    match f, hc with
    | 0, _ => exact ⟨_, a0⟩
    | 1, _ => exact ⟨_, a1⟩
    | 2, _ => exact ⟨_, a2⟩
    | 3, _ => exact ⟨_, a3⟩
    | 4, _ => exact ⟨_, a4⟩
    | 5, _ => exact ⟨_, a5⟩
    | 6, _ => exact ⟨_, a6⟩
    | f + 7, hc => omega
  · rw [set7_other _ _ _ _ _ _ _ _ (by omega)]; exact ho
end Go.Proofs.Qxb6623269a
