/- FnQuoHalfAway64OddInSigns: the walk. -/
import Derived.Test.Qxb6619613aQuo
import Derived.Test.Qxb6619613aHalfOK
import Derived.OpenShut
namespace Go.Proofs.Qxb6619613a.fnQuoHalfAway64OddInSigns
open Go.RowKit Go.Proofs.Qxb6619613a.Pl
set_option linter.unusedVariables false

theorem bdrew {B : Nat} {a w : World} (h : Below B a w) (q : Nat) : Below B a (w.drewN q) := ⟨h.os, h.tape, h.output, h.size, h.block⟩
theorem hideP {p : Prop} (h : p) : Hid p := h

set_option maxHeartbeats 1600000 in
theorem main (n d : Int) (w : World) (hd : d ≠ 0) (n1 : -9223372036854775808 < n) (n2 : n < 9223372036854775808) (d1 : -9223372036854775808 < d) (d2 : d < 9223372036854775808) :
    Calls Try.prog 5 #[.int .i64 n, .int .i64 d] w fun e w' => e = .returned (.bool true) ∧ Below w.heap.size w w' := by
  have e0 : (d == 0) = false := by simpa using hd
  have e1 : (n == -9223372036854775808) = false := beq_eq_false_iff_ne.2 (by omega)
  have e2 : (d == -9223372036854775808) = false := beq_eq_false_iff_ne.2 (by omega)
  obtain ⟨b1, b2⟩ := hal_bd n d hd n1 n2
  have KN : Hid (hal (-n) d = -hal n d) := hal_negn n d hd
  have KD : Hid (hal n (-d) = -hal n d) := hal_negd n d hd
  have KB : Hid (hal (-n) (-d) = hal n d) := by unfold Hid; rw [hal_negn n (-d) (by omega), hal_negd n d hd, Int.neg_neg]
  have HO := hal_ok n d hd
  simp only at HO
  have KO := hideP HO
  clear HO
  go_enter Try.func5, Try.ntmps5
  go_wp2_with fail
  refine (zzHalf_any n d _ hd n1 n2 d1 d2).mono ?_
  rintro e w1 ⟨rfl, k1, rfl⟩
  go_wp2_with fail
  refine (halfOK_any n d (hal n d) _ n1 n2 d1 d2 b1 b2 KO.out.1 KO.out.2.1 KO.out.2.2.1 KO.out.2.2.2).mono ?_
  rintro e w1 ⟨rfl, B⟩
  clear KO
  go_wp2_with fail
  refine (zzHalf_any (-n) d _ hd (by omega) (by omega) d1 d2).mono ?_
  rintro e w2 ⟨rfl, k2, rfl⟩
  rw [KN.out]
  go_wp2_with fail
  refine (zzHalf_any n (-d) _ (by omega) n1 n2 (by omega) (by omega)).mono ?_
  rintro e w2 ⟨rfl, k3, rfl⟩
  rw [KD.out]
  go_wp2_with fail
  refine (zzHalf_any (-n) (-d) _ (by omega) (by omega) (by omega) (by omega) (by omega)).mono ?_
  rintro e w2 ⟨rfl, k4, rfl⟩
  rw [KB.out]
  generalize hal n d = f at *
  go_wp2
  go_ret
  have B1 : Below w.heap.size w w1 := (bdrew (Below.refl w.heap.size w) k1).trans B
  refine ⟨rfl, ?_⟩
  first | exact bdrew (bdrew (bdrew B1 k2) k3) k4 | exact bdrew B1 _

set_option maxHeartbeats 1600000 in
theorem walk (a0 a1 : Int) (w0 : (Lit.int .i64 a0).wf = true) (w1 : (Lit.int .i64 a1).wf = true) (w : World) :
    Calls Try.prog 5 #[.int .i64 a0, .int .i64 a1] w fun e w' => e = .returned (.bool true) ∧ Below w.heap.size w w' := by
  obtain ⟨n1, n2⟩ := bounds_i64 w0
  obtain ⟨d1, d2⟩ := bounds_i64 w1
  clear w0 w1
  by_cases hd : a1 = 0
  · subst hd
    go_enter Try.func5, Try.ntmps5
    go_wp2
    go_ret
    exact ⟨rfl, Below.refl _ _⟩
  by_cases hn : a0 = -9223372036854775808
  · subst hn
    go_enter Try.func5, Try.ntmps5
    go_wp2
    go_ret
    exact ⟨rfl, Below.refl _ _⟩
  by_cases hm : a1 = -9223372036854775808
  · subst hm
    go_enter Try.func5, Try.ntmps5
    go_wp2
    go_ret
    exact ⟨rfl, Below.refl _ _⟩
  have n1' : -9223372036854775808 < a0 := by omega
  have d1' : -9223372036854775808 < a1 := by omega
  exact main a0 a1 w hd n1' (by omega) d1' (by omega)
end Go.Proofs.Qxb6619613a.fnQuoHalfAway64OddInSigns
