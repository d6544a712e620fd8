/- FnQuoFloor64ShiftAndSign: the walk. -/
import Derived.Test.Qxb6619613aQuo
import Derived.Test.Qxb6619613aFloorOK
import Derived.OpenShut
namespace Go.Proofs.Qxb6619613a.fnQuoFloor64ShiftAndSign
open Go.RowKit Go.Proofs.Qxb6619613a.Pl
set_option linter.unusedVariables false

set_option maxHeartbeats 1600000 in
theorem main (n d : Int) (w : World) (hd : d ≠ 0) (n1 : -9223372036854775808 < n) (n2 : n < 9223372036854775808) (d1 : -9223372036854775808 < d) (d2 : d < 9223372036854775808)
    (s1 : -9223372036854775808 < n + d) (s2 : n + d < 9223372036854775808) :
    Calls Try.prog 4 #[.int .i64 n, .int .i64 d] w fun e w' => e = .returned (.bool true) ∧ Below w.heap.size w w' := by
  have e0 : (d == 0) = false := by simpa using hd
  have e1 : (n == -9223372036854775808) = false := beq_eq_false_iff_ne.2 (by omega)
  have e2 : (d == -9223372036854775808) = false := beq_eq_false_iff_ne.2 (by omega)
  have HB := flo_bd n d hd n1 n2
  have HB2 := flo_bd (n + d) d hd s1 s2
  have HS := flo_shift n d hd
  have HF := flo_flip n d hd
  have HO := flo_ok n d hd
  rw [HS] at HB2
  by_cases hp : 0 < d
  · have hp2 : ¬ d < 0 := by omega
    have hq : ¬ 9223372036854775807 - d < n := by omega
    have KS : Hid (flo (n + d) d = flo n d + 1) := HS
    have KF : Hid (flo (-n) (-d) = flo n d) := HF
    obtain ⟨b1, b2⟩ := HB
    obtain ⟨b3, b4⟩ := HB2
    obtain ⟨o1, o2⟩ := HO
    clear HS HF
    go_enter Try.func4, Try.ntmps4
    go_wp2_with fail
    refine (zzFloor_any n d _ hd n1 n2 d1 d2).mono ?_
    rintro e w' ⟨rfl, rfl⟩
    go_wp2_with fail
    refine (floorOK_any n d (flo n d) _ n1 n2 d1 d2 b1 b2 o1 o2).mono ?_
    rintro e w1 ⟨rfl, B⟩
    clear o1 o2
    go_wp2_with fail
    refine (zzFloor_any (n + d) d _ hd s1 s2 d1 d2).mono ?_
    rintro e w2 ⟨rfl, rfl⟩
    rw [KS.out]
    go_wp2_with fail
    refine (zzFloor_any (-n) (-d) _ (by omega) (by omega) (by omega) (by omega) (by omega)).mono ?_
    rintro e w2 ⟨rfl, rfl⟩
    rw [KF.out]
    generalize flo n d = f at *
    go_wp2
    go_ret
    exact ⟨rfl, B⟩
  · have hp2 : d < 0 := by omega
    have hq : ¬ n < -9223372036854775807 - d := by omega
    have KS : Hid (flo (n + d) d = flo n d + 1) := HS
    have KF : Hid (flo (-n) (-d) = flo n d) := HF
    obtain ⟨b1, b2⟩ := HB
    obtain ⟨b3, b4⟩ := HB2
    obtain ⟨o1, o2⟩ := HO
    clear HS HF
    go_enter Try.func4, Try.ntmps4
    go_wp2_with fail
    refine (zzFloor_any n d _ hd n1 n2 d1 d2).mono ?_
    rintro e w' ⟨rfl, rfl⟩
    go_wp2_with fail
    refine (floorOK_any n d (flo n d) _ n1 n2 d1 d2 b1 b2 o1 o2).mono ?_
    rintro e w1 ⟨rfl, B⟩
    clear o1 o2
    go_wp2_with fail
    refine (zzFloor_any (n + d) d _ hd s1 s2 d1 d2).mono ?_
    rintro e w2 ⟨rfl, rfl⟩
    rw [KS.out]
    go_wp2_with fail
    refine (zzFloor_any (-n) (-d) _ (by omega) (by omega) (by omega) (by omega) (by omega)).mono ?_
    rintro e w2 ⟨rfl, rfl⟩
    rw [KF.out]
    generalize flo n d = f at *
    go_wp2
    go_ret
    exact ⟨rfl, B⟩

set_option maxHeartbeats 1600000 in
theorem walk (a0 a1 : Int) (w0 : (Lit.int .i64 a0).wf = true) (w1 : (Lit.int .i64 a1).wf = true) (w : World) :
    Calls Try.prog 4 #[.int .i64 a0, .int .i64 a1] w fun e w' => e = .returned (.bool true) ∧ Below w.heap.size w w' := by
  obtain ⟨n1, n2⟩ := bounds_i64 w0
  obtain ⟨d1, d2⟩ := bounds_i64 w1
  clear w0 w1
  by_cases hd : a1 = 0
  · subst hd
    go_enter Try.func4, Try.ntmps4
    go_wp2
    go_ret
    exact ⟨rfl, Below.refl _ _⟩
  by_cases hn : a0 = -9223372036854775808
  · subst hn
    go_enter Try.func4, Try.ntmps4
    go_wp2
    go_ret
    exact ⟨rfl, Below.refl _ _⟩
  by_cases hm : a1 = -9223372036854775808
  · subst hm
    go_enter Try.func4, Try.ntmps4
    go_wp2
    go_ret
    exact ⟨rfl, Below.refl _ _⟩
  have n1' : -9223372036854775808 < a0 := by omega
  have d1' : -9223372036854775808 < a1 := by omega
  have e0 : (a1 == 0) = false := by simpa using hd
  have e1 : (a0 == -9223372036854775808) = false := beq_eq_false_iff_ne.2 (by omega)
  have e2 : (a1 == -9223372036854775808) = false := beq_eq_false_iff_ne.2 (by omega)
  by_cases hs : 0 < a1 ∧ 9223372036854775807 - a1 < a0
  · obtain ⟨hs1, hs2⟩ := hs
    clear hn hm n1 d1
    go_enter Try.func4, Try.ntmps4
    go_wp2
    go_ret
    exact ⟨rfl, Below.refl _ _⟩
  by_cases ht : a1 < 0 ∧ a0 < -9223372036854775807 - a1
  · obtain ⟨ht1, ht2⟩ := ht
    have hs1 : ¬ 0 < a1 := by omega
    clear hn hm n1 d1 hs
    go_enter Try.func4, Try.ntmps4
    go_wp2
    go_ret
    exact ⟨rfl, Below.refl _ _⟩
  exact main a0 a1 w hd n1' (by omega) d1' (by omega) (by omega) (by omega)
end Go.Proofs.Qxb6619613a.fnQuoFloor64ShiftAndSign
