/- THE WALK of b1FloorOK: it says yes where q is the floor. -/
import Derived.Test.Qxb6619613aWords2
import Derived.Deep.RegionHeld3
namespace Go.Proofs.Qxb6619613a
open Go.RowKit Go.Proofs.Qxb6619613a.Pl
set_option linter.unusedVariables false

/-- block b holds the two words of z -/
def Has (w : World) (b : Nat) (z : Int) : Prop := w.cell? ⟨b, 0, none⟩ = some (.int .u64 (hi z)) ∧ w.cell? ⟨b, 1, none⟩ = some (.int .u64 (lo z))
theorem Has.below {W w' : World} {b : Nat} {z : Int} (h : Has W b z) (hb : Below W.heap.size W w') (hlt : b < W.heap.size) : Has w' b z :=
  ⟨(hb.cell (p := ⟨b, 0, none⟩) hlt).trans h.1, (hb.cell (p := ⟨b, 1, none⟩) hlt).trans h.2⟩
theorem bel2 {W w' : World} {b : Nat} {x y : Value} (hb : Below W.heap.size W w') (hlt : b < W.heap.size) (h0 : W.cell? ⟨b, 0, none⟩ = some x) (h1 : W.cell? ⟨b, 1, none⟩ = some y) : w'.cell? ⟨b, 0, none⟩ = some x ∧ w'.cell? ⟨b, 1, none⟩ = some y :=
  ⟨(hb.cell (p := ⟨b, 0, none⟩) hlt).trans h0, (hb.cell (p := ⟨b, 1, none⟩) hlt).trans h1⟩
theorem Has.alloc {W : World} {b : Nat} {z : Int} (h : Has W b z) (hlt : b < W.heap.size) (o : Obj) : Has (W.alloc o) b z :=
  ⟨(World.cell?_alloc_past _ _ _ hlt).trans h.1, (World.cell?_alloc_past _ _ _ hlt).trans h.2⟩
theorem Has.new (W : World) (z : Int) : Has (W.alloc (.cells #[.int .u64 (hi z), .int .u64 (lo z)] 31)) W.heap.size z :=
  ⟨World.cell?_alloc_at _ _ _ _ rfl, World.cell?_alloc_at _ _ _ _ rfl⟩

set_option maxHeartbeats 1600000 in
theorem floorOK_any (n d q : Int) (w : World) (n1 : -9223372036854775808 < n) (n2 : n < 9223372036854775808) (d1 : -9223372036854775808 < d) (d2 : d < 9223372036854775808) (q1 : -9223372036854775808 < q) (q2 : q < 9223372036854775808)
    (H1 : q * dd d ≤ nn n d) (H2 : nn n d < q * dd d + dd d) :
    Calls Try.prog 10 #[.int .i64 n, .int .i64 d, .int .i64 q] w fun e w' => e = .returned (.bool true) ∧ Below w.heap.size w w' := by
  by_cases h : d < 0
  · have HH : Hid (q * -d ≤ -n ∧ -n < q * -d + -d) := by
      unfold Hid; unfold nn dd at H1 H2; simp only [if_pos h] at H1 H2; exact ⟨H1, H2⟩
    clear H1 H2
    go_enter Try.func10, Try.ntmps10
    go_wp2_with fail
    refine (mulsu_any q (-d) _ q1 q2 (by omega) (by omega)).mono ?_
    rintro e w1 ⟨rfl, hb1⟩
    generalize q * -d = P at *
    obtain ⟨G1, G2⟩ := HH.out
    clear HH
    have f1 : decide (-n < P) = false := decide_eq_false (by omega)
    have f2 : decide (-n < P + -d) = true := decide_eq_true (by omega)
    have z1 := hb1.size
    go_wp2_with fail
    refine (from64_any (-n) _ (by omega) (by omega)).mono ?_
    rintro e w2 ⟨rfl, hb2⟩
    have z2 : w1.heap.size < w2.heap.size := by have := hb2.size; simp at this; omega
    obtain ⟨c1, c2⟩ := (Has.new w1 P).below hb2 (by simp)
    have hB2 : Below w.heap.size w w2 := (hb1.alloc z1 _).trans (hb2.mono (by simp; omega))
    clear hb1 hb2
    go_wp2_with fail
    refine (less_any (-n) P _ (by unfold M; omega) (by unfold M; omega) (by unfold M; omega) (by unfold M; omega)).mono ?_
    rintro e w3 ⟨rfl, hb3⟩
    have z3 : w2.heap.size < w3.heap.size := by have := hb3.size; simp at this; omega
    obtain ⟨c3, c4⟩ := (Has.new w2 (-n)).below hb3 (by simp)
    obtain ⟨c5, c6⟩ := ((Has.alloc ⟨c1, c2⟩ z2 (.cells #[.int .u64 (hi (-n)), .int .u64 (lo (-n))] 31))).below hb3 (by simp; omega)
    have hB3 : Below w.heap.size w w3 := (hB2.alloc hB2.size _).trans (hb3.mono (by simp; have := hB2.size; omega))
    clear hb3 c1 c2 hB2
    go_wp2_with fail
    have y3a : w1.heap.size < w3.heap.size := by omega
    go_region_held3 (fun w' => w'.cell? ⟨w1.heap.size, 0, none⟩ = some (.int .u64 (hi P)) ∧ w'.cell? ⟨w1.heap.size, 1, none⟩ = some (.int .u64 (lo P)) ∧ w'.cell? ⟨w2.heap.size, 0, none⟩ = some (.int .u64 (hi (-n))) ∧ w'.cell? ⟨w2.heap.size, 1, none⟩ = some (.int .u64 (lo (-n)))) (first | exact ⟨a7, a8, b7, b8⟩ | exact ⟨a5, a6, b5, b6⟩ | exact ⟨a1, a2, a3, a4⟩ | exact ⟨c5, c6, c3, c4⟩)
      (first
        | (go_at_call 19; refine (from64_any (-d) _ (by omega) (by omega)).mono ?_; rintro e w4 ⟨rfl, hb4⟩; obtain ⟨a1, a2⟩ := bel2 hb4 y3a c5 c6; obtain ⟨a3, a4⟩ := bel2 hb4 z3 c3 c4; have y4a : w1.heap.size < w4.heap.size := Nat.lt_of_lt_of_le y3a hb4.size; have y4b : w2.heap.size < w4.heap.size := Nat.lt_of_lt_of_le z3 hb4.size)
        | (go_at_call 21; refine (add_any P (-d) _).mono ?_; rintro e w5 ⟨rfl, hb5⟩; obtain ⟨b5, b6⟩ := bel2 hb5 y4b a3 a4; obtain ⟨a5, a6⟩ := bel2 hb5 y4a a1 a2; have y5a : w1.heap.size < w5.heap.size := Nat.lt_of_lt_of_le y4a hb5.size; have y5b : w2.heap.size < w5.heap.size := Nat.lt_of_lt_of_le y4b hb5.size)
        | (go_at_call 20; refine (less_any (-n) (P + -d) _ (by unfold M; omega) (by unfold M; omega) (by unfold M; omega) (by unfold M; omega)).mono ?_; rintro e w6 ⟨rfl, hb6⟩; obtain ⟨b7, b8⟩ := bel2 hb6 y5b b5 b6; obtain ⟨a7, a8⟩ := bel2 hb6 y5a a5 a6))
    all_goals
      have hB6 : Below w.heap.size w w6 := hB3.drew.trans ((hb4.mono hB3.size).trans ((hb5.mono (Nat.le_trans hB3.size hb4.size)).trans (hb6.mono (Nat.le_trans (Nat.le_trans hB3.size hb4.size) hb5.size))))
      go_wp2
      go_ret
      exact ⟨rfl, hB6⟩
  · have HH : Hid (q * d ≤ n ∧ n < q * d + d) := by
      unfold Hid; unfold nn dd at H1 H2; simp only [if_neg h] at H1 H2; exact ⟨H1, H2⟩
    clear H1 H2
    go_enter Try.func10, Try.ntmps10
    go_wp2_with fail
    refine (mulsu_any q d _ q1 q2 (by omega) (by omega)).mono ?_
    rintro e w1 ⟨rfl, hb1⟩
    generalize q * d = P at *
    obtain ⟨G1, G2⟩ := HH.out
    clear HH
    have f1 : decide (n < P) = false := decide_eq_false (by omega)
    have f2 : decide (n < P + d) = true := decide_eq_true (by omega)
    have z1 := hb1.size
    go_wp2_with fail
    refine (from64_any n _ (by omega) (by omega)).mono ?_
    rintro e w2 ⟨rfl, hb2⟩
    have z2 : w1.heap.size < w2.heap.size := by have := hb2.size; simp at this; omega
    obtain ⟨c1, c2⟩ := (Has.new w1 P).below hb2 (by simp)
    have hB2 : Below w.heap.size w w2 := (hb1.alloc z1 _).trans (hb2.mono (by simp; omega))
    clear hb1 hb2
    go_wp2_with fail
    refine (less_any n P _ (by unfold M; omega) (by unfold M; omega) (by unfold M; omega) (by unfold M; omega)).mono ?_
    rintro e w3 ⟨rfl, hb3⟩
    have z3 : w2.heap.size < w3.heap.size := by have := hb3.size; simp at this; omega
    obtain ⟨c3, c4⟩ := (Has.new w2 n).below hb3 (by simp)
    obtain ⟨c5, c6⟩ := ((Has.alloc ⟨c1, c2⟩ z2 (.cells #[.int .u64 (hi n), .int .u64 (lo n)] 31))).below hb3 (by simp; omega)
    have hB3 : Below w.heap.size w w3 := (hB2.alloc hB2.size _).trans (hb3.mono (by simp; have := hB2.size; omega))
    clear hb3 c1 c2 hB2
    go_wp2_with fail
    have y3a : w1.heap.size < w3.heap.size := by omega
    go_region_held3 (fun w' => w'.cell? ⟨w1.heap.size, 0, none⟩ = some (.int .u64 (hi P)) ∧ w'.cell? ⟨w1.heap.size, 1, none⟩ = some (.int .u64 (lo P)) ∧ w'.cell? ⟨w2.heap.size, 0, none⟩ = some (.int .u64 (hi n)) ∧ w'.cell? ⟨w2.heap.size, 1, none⟩ = some (.int .u64 (lo n))) (first | exact ⟨a7, a8, b7, b8⟩ | exact ⟨a5, a6, b5, b6⟩ | exact ⟨a1, a2, a3, a4⟩ | exact ⟨c5, c6, c3, c4⟩)
      (first
        | (go_at_call 19; refine (from64_any d _ (by omega) (by omega)).mono ?_; rintro e w4 ⟨rfl, hb4⟩; obtain ⟨a1, a2⟩ := bel2 hb4 y3a c5 c6; obtain ⟨a3, a4⟩ := bel2 hb4 z3 c3 c4; have y4a : w1.heap.size < w4.heap.size := Nat.lt_of_lt_of_le y3a hb4.size; have y4b : w2.heap.size < w4.heap.size := Nat.lt_of_lt_of_le z3 hb4.size)
        | (go_at_call 21; refine (add_any P d _).mono ?_; rintro e w5 ⟨rfl, hb5⟩; obtain ⟨b5, b6⟩ := bel2 hb5 y4b a3 a4; obtain ⟨a5, a6⟩ := bel2 hb5 y4a a1 a2; have y5a : w1.heap.size < w5.heap.size := Nat.lt_of_lt_of_le y4a hb5.size; have y5b : w2.heap.size < w5.heap.size := Nat.lt_of_lt_of_le y4b hb5.size)
        | (go_at_call 20; refine (less_any n (P + d) _ (by unfold M; omega) (by unfold M; omega) (by unfold M; omega) (by unfold M; omega)).mono ?_; rintro e w6 ⟨rfl, hb6⟩; obtain ⟨b7, b8⟩ := bel2 hb6 y5b b5 b6; obtain ⟨a7, a8⟩ := bel2 hb6 y5a a5 a6))
    all_goals
      have hB6 : Below w.heap.size w w6 := hB3.drew.trans ((hb4.mono hB3.size).trans ((hb5.mono (Nat.le_trans hB3.size hb4.size)).trans (hb6.mono (Nat.le_trans (Nat.le_trans hB3.size hb4.size) hb5.size))))
      go_wp2
      go_ret
      exact ⟨rfl, hB6⟩
end Go.Proofs.Qxb6619613a
