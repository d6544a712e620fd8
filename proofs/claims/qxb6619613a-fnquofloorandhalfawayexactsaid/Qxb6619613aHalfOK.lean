/- THE WALK of b1HalfAwayOK: it says yes where q is the nearest integer, halves away from zero. -/
import Derived.Test.Qxb6619613aFloorOK
namespace Go.Proofs.Qxb6619613a
open Go.RowKit Go.Proofs.Qxb6619613a.Pl
set_option linter.unusedVariables false

theorem bel2a {W w' : World} {b : Nat} {x y : Value} {o : Obj} (hb : Below (W.alloc o).heap.size (W.alloc o) w') (hlt : b < W.heap.size) (h0 : W.cell? ⟨b, 0, none⟩ = some x) (h1 : W.cell? ⟨b, 1, none⟩ = some y) : w'.cell? ⟨b, 0, none⟩ = some x ∧ w'.cell? ⟨b, 1, none⟩ = some y :=
  bel2 hb (by simp; omega) ((World.cell?_alloc_past _ _ _ hlt).trans h0) ((World.cell?_alloc_past _ _ _ hlt).trans h1)
theorem siz {W w' : World} {o : Obj} (hb : Below (W.alloc o).heap.size (W.alloc o) w') : W.heap.size < w'.heap.size := by have := hb.size; simp at this; omega

set_option maxHeartbeats 1600000 in
theorem halfOK_any (n d q : Int) (w : World) (n1 : -9223372036854775808 < n) (n2 : n < 9223372036854775808) (d1 : -9223372036854775808 < d) (d2 : d < 9223372036854775808) (q1 : -9223372036854775808 < q) (q2 : q < 9223372036854775808)
    (H1 : -(dd d) ≤ 2 * (nn n d - q * dd d)) (H2 : 2 * (nn n d - q * dd d) ≤ dd d) (H3 : 2 * (nn n d - q * dd d) = dd d → nn n d < 0) (H4 : 2 * (nn n d - q * dd d) = -(dd d) → 0 < nn n d) :
    Calls Try.prog 11 #[.int .i64 n, .int .i64 d, .int .i64 q] w fun e w' => e = .returned (.bool true) ∧ Below w.heap.size w w' := by
  by_cases h : d < 0
  · have HH : Hid (-(-d) ≤ 2 * (-n - q * -d) ∧ 2 * (-n - q * -d) ≤ -d ∧ (2 * (-n - q * -d) = -d → -n < 0) ∧ (2 * (-n - q * -d) = -(-d) → 0 < -n)) := by
      unfold Hid; unfold nn dd at H1 H2 H3 H4; simp only [if_pos h] at H1 H2 H3 H4; exact ⟨H1, H2, H3, H4⟩
    clear H1 H2 H3 H4
    go_enter Try.func11, Try.ntmps11
    go_wp2_with fail
    refine (from64_any (-d) _ (by omega) (by omega)).mono ?_
    rintro e w1 ⟨rfl, hb1⟩
    have B1 : Below w.heap.size w w1 := hb1
    clear hb1
    go_wp2_with fail
    refine (from64_any (-n) _ (by omega) (by omega)).mono ?_
    rintro e w2 ⟨rfl, hb2⟩
    have s12 := siz hb2
    obtain ⟨c91, c92⟩ := (Has.new w1 (-d)).below hb2 (by simp)
    have B2 : Below w.heap.size w w2 := (B1.alloc B1.size _).trans (hb2.mono (by simp; have := B1.size; omega))
    clear hb2
    go_wp2_with fail
    refine (mulsu_any q (-d) _ q1 q2 (by omega) (by omega)).mono ?_
    rintro e w3 ⟨rfl, hb3⟩
    obtain ⟨d91, d92⟩ := bel2 hb3 s12 c91 c92
    have s13 : w1.heap.size < w3.heap.size := Nat.lt_of_lt_of_le s12 hb3.size
    have B3 : Below w.heap.size w w3 := B2.trans (hb3.mono B2.size)
    clear hb3 c91 c92 B2 s12
    generalize q * -d = P at *
    go_wp2_with fail
    refine (sub_any (-n) P _).mono ?_
    rintro e w4 ⟨rfl, hb4⟩
    obtain ⟨c91, c92⟩ := bel2 hb4 s13 d91 d92
    have s14 : w1.heap.size < w4.heap.size := Nat.lt_of_lt_of_le s13 hb4.size
    have B4 : Below w.heap.size w w4 := B3.trans (hb4.mono B3.size)
    clear hb4 d91 d92 B3 s13
    obtain ⟨G1, G2, G3, G4⟩ := HH.out
    generalize hx : -n - P = X at *
    clear hx HH
    have GG : Hid ((2 * X = -d → -n < 0) ∧ (2 * X = -(-d) → 0 < -n)) := ⟨G3, G4⟩
    clear G3 G4
    have f1 : decide (-d - X < X) = false := decide_eq_false (by omega)
    have f2 : decide (X + -d < -X) = false := decide_eq_false (by omega)
    go_wp2_with fail
    refine (sub_any (-d) X _).mono ?_
    rintro e w5 ⟨rfl, hb5⟩
    have s45 := siz hb5
    have s15 : w1.heap.size < w5.heap.size := Nat.lt_trans s14 s45
    obtain ⟨e91, e92⟩ := bel2a hb5 s14 c91 c92
    obtain ⟨e101, e102⟩ := (Has.new w4 X).below hb5 (by simp)
    have B5 : Below w.heap.size w w5 := (B4.alloc B4.size _).trans (hb5.mono (by simp; have := B4.size; omega))
    clear hb5 c91 c92 B4 s14
    go_wp2_with fail
    refine (less_any (-d - X) X _ (by unfold M; omega) (by unfold M; omega) (by unfold M; omega) (by unfold M; omega)).mono ?_
    rintro e w6 ⟨rfl, hb6⟩
    have s56 := siz hb6
    obtain ⟨g91, g92⟩ := bel2a hb6 s15 e91 e92
    obtain ⟨g101, g102⟩ := bel2a hb6 s45 e101 e102
    obtain ⟨g111, g112⟩ := (Has.new w5 (-d - X)).below hb6 (by simp)
    have s16 : w1.heap.size < w6.heap.size := Nat.lt_trans s15 s56
    have s46 : w4.heap.size < w6.heap.size := Nat.lt_trans s45 s56
    have B6 : Below w.heap.size w w6 := (B5.alloc B5.size _).trans (hb6.mono (by simp; have := B5.size; omega))
    clear hb6 e91 e92 e101 e102 B5 s45 s15
    go_wp2_with fail
    refine (add_any X (-d) _).mono ?_
    rintro e w7 ⟨rfl, hb7⟩
    obtain ⟨i101, i102⟩ := bel2 hb7 s46 g101 g102
    obtain ⟨i111, i112⟩ := bel2 hb7 s56 g111 g112
    have s47 : w4.heap.size < w7.heap.size := Nat.lt_of_lt_of_le s46 hb7.size
    have s57 : w5.heap.size < w7.heap.size := Nat.lt_of_lt_of_le s56 hb7.size
    have B7 : Below w.heap.size w w7 := B6.trans (hb7.mono B6.size)
    clear hb7 g91 g92 g101 g102 g111 g112 s56 s16 s46 B6
    go_wp2_with fail
    refine (neg_any X _).mono ?_
    rintro e w8 ⟨rfl, hb8⟩
    have s78 := siz hb8
    obtain ⟨j101, j102⟩ := bel2a hb8 s47 i101 i102
    obtain ⟨j111, j112⟩ := bel2a hb8 s57 i111 i112
    obtain ⟨j121, j122⟩ := (Has.new w7 (X + -d)).below hb8 (by simp)
    have s48 : w4.heap.size < w8.heap.size := Nat.lt_trans s47 s78
    have s58 : w5.heap.size < w8.heap.size := Nat.lt_trans s57 s78
    have B8 : Below w.heap.size w w8 := (B7.alloc B7.size _).trans (hb8.mono (by simp; have := B7.size; omega))
    clear hb8 i101 i102 i111 i112 s47 s57 B7
    go_wp2_with fail
    refine (less_any (X + -d) (-X) _ (by unfold M; omega) (by unfold M; omega) (by unfold M; omega) (by unfold M; omega)).mono ?_
    rintro e w9 ⟨rfl, hb9⟩
    obtain ⟨k101, k102⟩ := bel2a hb9 s48 j101 j102
    obtain ⟨k111, k112⟩ := bel2a hb9 s58 j111 j112
    obtain ⟨k121, k122⟩ := bel2a hb9 s78 j121 j122
    obtain ⟨k131, k132⟩ := (Has.new w8 (-X)).below hb9 (by simp)
    have B9 : Below w.heap.size w w9 := (B8.alloc B8.size _).trans (hb9.mono (by simp; have := B8.size; omega))
    clear hb9 j101 j102 j111 j112 j121 j122 s48 s58 s78 B8
    have E1 : Hid (hi (-d - X) = hi X → lo (-d - X) = lo X → -n < 0) := fun a b => GG.out.1 (by
      have := (eq_both (-d - X) X (by unfold M; omega) (by unfold M; omega) (by unfold M; omega) (by unfold M; omega)).1 ⟨a, b⟩
      omega)
    have E2 : Hid (hi (-X) = hi (X + -d) → lo (-X) = lo (X + -d) → 0 < -n) := fun a b => GG.out.2 (by
      have := (eq_both (-X) (X + -d) (by unfold M; omega) (by unfold M; omega) (by unfold M; omega) (by unfold M; omega)).1 ⟨a, b⟩
      omega)
    clear GG
    go_wp2
    all_goals first
      | (go_ret; exact ⟨rfl, B9⟩)
      | (exfalso; have r := E1.out (by assumption) (by assumption); first | (simp_all; done) | (simp_all; omega))
      | (exfalso; have r := E2.out (by assumption) (by assumption); first | (simp_all; done) | (simp_all; omega))
  · have HH : Hid (-d ≤ 2 * (n - q * d) ∧ 2 * (n - q * d) ≤ d ∧ (2 * (n - q * d) = d → n < 0) ∧ (2 * (n - q * d) = -d → 0 < n)) := by
      unfold Hid; unfold nn dd at H1 H2 H3 H4; simp only [if_neg h] at H1 H2 H3 H4; exact ⟨H1, H2, H3, H4⟩
    clear H1 H2 H3 H4
    go_enter Try.func11, Try.ntmps11
    go_wp2_with fail
    refine (from64_any d _ (by omega) (by omega)).mono ?_
    rintro e w1 ⟨rfl, hb1⟩
    have B1 : Below w.heap.size w w1 := hb1
    clear hb1
    go_wp2_with fail
    refine (from64_any n _ (by omega) (by omega)).mono ?_
    rintro e w2 ⟨rfl, hb2⟩
    have s12 := siz hb2
    obtain ⟨c91, c92⟩ := (Has.new w1 d).below hb2 (by simp)
    have B2 : Below w.heap.size w w2 := (B1.alloc B1.size _).trans (hb2.mono (by simp; have := B1.size; omega))
    clear hb2
    go_wp2_with fail
    refine (mulsu_any q d _ q1 q2 (by omega) (by omega)).mono ?_
    rintro e w3 ⟨rfl, hb3⟩
    obtain ⟨d91, d92⟩ := bel2 hb3 s12 c91 c92
    have s13 : w1.heap.size < w3.heap.size := Nat.lt_of_lt_of_le s12 hb3.size
    have B3 : Below w.heap.size w w3 := B2.trans (hb3.mono B2.size)
    clear hb3 c91 c92 B2 s12
    generalize q * d = P at *
    go_wp2_with fail
    refine (sub_any n P _).mono ?_
    rintro e w4 ⟨rfl, hb4⟩
    obtain ⟨c91, c92⟩ := bel2 hb4 s13 d91 d92
    have s14 : w1.heap.size < w4.heap.size := Nat.lt_of_lt_of_le s13 hb4.size
    have B4 : Below w.heap.size w w4 := B3.trans (hb4.mono B3.size)
    clear hb4 d91 d92 B3 s13
    obtain ⟨G1, G2, G3, G4⟩ := HH.out
    generalize hx : n - P = X at *
    clear hx HH
    have GG : Hid ((2 * X = d → n < 0) ∧ (2 * X = -d → 0 < n)) := ⟨G3, G4⟩
    clear G3 G4
    have f1 : decide (d - X < X) = false := decide_eq_false (by omega)
    have f2 : decide (X + d < -X) = false := decide_eq_false (by omega)
    go_wp2_with fail
    refine (sub_any d X _).mono ?_
    rintro e w5 ⟨rfl, hb5⟩
    have s45 := siz hb5
    have s15 : w1.heap.size < w5.heap.size := Nat.lt_trans s14 s45
    obtain ⟨e91, e92⟩ := bel2a hb5 s14 c91 c92
    obtain ⟨e101, e102⟩ := (Has.new w4 X).below hb5 (by simp)
    have B5 : Below w.heap.size w w5 := (B4.alloc B4.size _).trans (hb5.mono (by simp; have := B4.size; omega))
    clear hb5 c91 c92 B4 s14
    go_wp2_with fail
    refine (less_any (d - X) X _ (by unfold M; omega) (by unfold M; omega) (by unfold M; omega) (by unfold M; omega)).mono ?_
    rintro e w6 ⟨rfl, hb6⟩
    have s56 := siz hb6
    obtain ⟨g91, g92⟩ := bel2a hb6 s15 e91 e92
    obtain ⟨g101, g102⟩ := bel2a hb6 s45 e101 e102
    obtain ⟨g111, g112⟩ := (Has.new w5 (d - X)).below hb6 (by simp)
    have s16 : w1.heap.size < w6.heap.size := Nat.lt_trans s15 s56
    have s46 : w4.heap.size < w6.heap.size := Nat.lt_trans s45 s56
    have B6 : Below w.heap.size w w6 := (B5.alloc B5.size _).trans (hb6.mono (by simp; have := B5.size; omega))
    clear hb6 e91 e92 e101 e102 B5 s45 s15
    go_wp2_with fail
    refine (add_any X d _).mono ?_
    rintro e w7 ⟨rfl, hb7⟩
    obtain ⟨i101, i102⟩ := bel2 hb7 s46 g101 g102
    obtain ⟨i111, i112⟩ := bel2 hb7 s56 g111 g112
    have s47 : w4.heap.size < w7.heap.size := Nat.lt_of_lt_of_le s46 hb7.size
    have s57 : w5.heap.size < w7.heap.size := Nat.lt_of_lt_of_le s56 hb7.size
    have B7 : Below w.heap.size w w7 := B6.trans (hb7.mono B6.size)
    clear hb7 g91 g92 g101 g102 g111 g112 s56 s16 s46 B6
    go_wp2_with fail
    refine (neg_any X _).mono ?_
    rintro e w8 ⟨rfl, hb8⟩
    have s78 := siz hb8
    obtain ⟨j101, j102⟩ := bel2a hb8 s47 i101 i102
    obtain ⟨j111, j112⟩ := bel2a hb8 s57 i111 i112
    obtain ⟨j121, j122⟩ := (Has.new w7 (X + d)).below hb8 (by simp)
    have s48 : w4.heap.size < w8.heap.size := Nat.lt_trans s47 s78
    have s58 : w5.heap.size < w8.heap.size := Nat.lt_trans s57 s78
    have B8 : Below w.heap.size w w8 := (B7.alloc B7.size _).trans (hb8.mono (by simp; have := B7.size; omega))
    clear hb8 i101 i102 i111 i112 s47 s57 B7
    go_wp2_with fail
    refine (less_any (X + d) (-X) _ (by unfold M; omega) (by unfold M; omega) (by unfold M; omega) (by unfold M; omega)).mono ?_
    rintro e w9 ⟨rfl, hb9⟩
    obtain ⟨k101, k102⟩ := bel2a hb9 s48 j101 j102
    obtain ⟨k111, k112⟩ := bel2a hb9 s58 j111 j112
    obtain ⟨k121, k122⟩ := bel2a hb9 s78 j121 j122
    obtain ⟨k131, k132⟩ := (Has.new w8 (-X)).below hb9 (by simp)
    have B9 : Below w.heap.size w w9 := (B8.alloc B8.size _).trans (hb9.mono (by simp; have := B8.size; omega))
    clear hb9 j101 j102 j111 j112 j121 j122 s48 s58 s78 B8
    have E1 : Hid (hi (d - X) = hi X → lo (d - X) = lo X → n < 0) := fun a b => GG.out.1 (by
      have := (eq_both (d - X) X (by unfold M; omega) (by unfold M; omega) (by unfold M; omega) (by unfold M; omega)).1 ⟨a, b⟩
      omega)
    have E2 : Hid (hi (-X) = hi (X + d) → lo (-X) = lo (X + d) → 0 < n) := fun a b => GG.out.2 (by
      have := (eq_both (-X) (X + d) (by unfold M; omega) (by unfold M; omega) (by unfold M; omega) (by unfold M; omega)).1 ⟨a, b⟩
      omega)
    clear GG
    go_wp2
    all_goals first
      | (go_ret; exact ⟨rfl, B9⟩)
      | (exfalso; have r := E1.out (by assumption) (by assumption); first | (simp_all; done) | (simp_all; omega))
      | (exfalso; have r := E2.out (by assumption) (by assumption); first | (simp_all; done) | (simp_all; omega))
end Go.Proofs.Qxb6619613a
