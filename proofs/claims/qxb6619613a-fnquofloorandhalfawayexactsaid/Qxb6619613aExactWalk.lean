/- FnQuoFloorAndHalfAwayExact: the walk. -/
import Derived.Test.Qxb6619613aQuo
import Derived.Test.Qxb6619613aHalfOK
import Derived.OpenShut
namespace Go.Proofs.Qxb6619613a.fnQuoFloorAndHalfAwayExact
open Go.RowKit Go.Proofs.Qxb6619613a.Pl
set_option linter.unusedVariables false

theorem bdrew {B : Nat} {a w : World} (h : Below B a w) (q : Nat) : Below B a (w.drewN q) := ⟨h.os, h.tape, h.output, h.size, h.block⟩
theorem hideP {p : Prop} (h : p) : Hid p := h

set_option maxHeartbeats 1600000 in
theorem main (n d : Int) (w : World) (hd : d ≠ 0) (n1 : -9223372036854775808 < n) (n2 : n < 9223372036854775808) (d1 : -9223372036854775808 < d) (d2 : d < 9223372036854775808) :
    Calls Try.prog 3 #[.int .i64 n, .int .i64 d] w fun e w' => e = .returned (.bool true) ∧ Below w.heap.size w w' := by
  have e0 : (d == 0) = false := by simpa using hd
  have e1 : (n == -9223372036854775808) = false := beq_eq_false_iff_ne.2 (by omega)
  have e2 : (d == -9223372036854775808) = false := beq_eq_false_iff_ne.2 (by omega)
  obtain ⟨b1, b2⟩ := flo_bd n d hd n1 n2
  obtain ⟨b3, b4⟩ := hal_bd n d hd n1 n2
  have KF := hideP (flo_ok n d hd)
  have HO := hal_ok n d hd
  simp only at HO
  have KO := hideP HO
  have KH := hideP (hal_flo n d hd)
  clear HO
  go_enter Try.func3, Try.ntmps3
  go_wp2_with fail
  refine (zzFloor_any n d _ hd n1 n2 d1 d2).mono ?_
  rintro e w1 ⟨rfl, rfl⟩
  go_wp2_with fail
  refine (zzHalf_any n d _ hd n1 n2 d1 d2).mono ?_
  rintro e w1 ⟨rfl, k1, rfl⟩
  go_wp2_with fail
  refine (floorOK_any n d (flo n d) _ n1 n2 d1 d2 b1 b2 KF.out.1 KF.out.2).mono ?_
  rintro e w1 ⟨rfl, B1⟩
  clear KF
  go_wp2_with fail
  refine (halfOK_any n d (hal n d) _ n1 n2 d1 d2 b3 b4 KO.out.1 KO.out.2.1 KO.out.2.2.1 KO.out.2.2.2).mono ?_
  rintro e w2 ⟨rfl, B2⟩
  clear KO
  have B : Below w.heap.size w w2 := ((bdrew (Below.refl w.heap.size w) k1).trans B1).trans (B2.mono B1.size)
  clear B1 B2
  generalize flo n d = f at *
  generalize hal n d = g at *
  rcases KH.out with hh | hh
  · subst hh
    clear KH
    go_wp2
    go_ret
    exact ⟨rfl, B⟩
  · subst hh
    clear KH
    have x1 : (f + 1 == f) = false := beq_eq_false_iff_ne.2 (by omega)
    have x2 : (f != 9223372036854775807) = true := by rw [bne_iff_ne]; omega
    go_wp2
    go_ret
    exact ⟨rfl, B⟩

set_option maxHeartbeats 1600000 in
theorem walk (a0 a1 : Int) (w0 : (Lit.int .i64 a0).wf = true) (w1 : (Lit.int .i64 a1).wf = true) (w : World) :
    Calls Try.prog 3 #[.int .i64 a0, .int .i64 a1] w fun e w' => e = .returned (.bool true) ∧ Below w.heap.size w w' := by
  obtain ⟨n1, n2⟩ := bounds_i64 w0
  obtain ⟨d1, d2⟩ := bounds_i64 w1
  clear w0 w1
  by_cases hd : a1 = 0
  · subst hd
    go_enter Try.func3, Try.ntmps3
    go_wp2
    go_ret
    exact ⟨rfl, Below.refl _ _⟩
  by_cases hn : a0 = -9223372036854775808
  · subst hn
    go_enter Try.func3, Try.ntmps3
    go_wp2
    go_ret
    exact ⟨rfl, Below.refl _ _⟩
  by_cases hm : a1 = -9223372036854775808
  · subst hm
    go_enter Try.func3, Try.ntmps3
    go_wp2
    go_ret
    exact ⟨rfl, Below.refl _ _⟩
  have n1' : -9223372036854775808 < a0 := by omega
  have d1' : -9223372036854775808 < a1 := by omega
  exact main a0 a1 w hd n1' (by omega) d1' (by omega)
end Go.Proofs.Qxb6619613a.fnQuoFloorAndHalfAwayExact
