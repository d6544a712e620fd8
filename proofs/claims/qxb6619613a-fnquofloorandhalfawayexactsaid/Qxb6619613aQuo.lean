/- THE WALKS of abs64, quoFloor64, quoHalfAway64 and their two shims. -/
import Derived.Test.Qxb6619613aRows
import Derived.Test.Qxb6619613aArith
import Derived.WalkKit
import Derived.WalkSpells
import Derived.ProofKit
import Derived.BigQuiet
namespace Go.Proofs.Qxb6619613a
open Go.RowKit Go.Proofs.Qxb6619613a.Pl
set_option linter.unusedVariables false

/-- an int64 that is not the least one -/
def Mid (n : Int) : Prop := -9223372036854775808 < n ∧ n < 9223372036854775808

theorem ret_int {k : IntKind} {a b : Int} (h : a = b) : Ending.returned (.int k a) = .returned (.int k b) := by rw [h]

set_option maxHeartbeats 400000 in
theorem abs64_any (x : Int) (w : World) (h1 : -9223372036854775808 < x) (h2 : x < 9223372036854775808) :
    Calls Try.prog 25 #[.int .i64 x] w fun e w' => e = .returned (.int .u64 (dd x)) ∧ w = w' := by
  by_cases h : x < 0
  · go_enter Try.func25, Try.ntmps25
    go_wp2
    go_ret
    exact ⟨ret_int (by unfold dd; rw [if_pos h, IntKind.wrap_u64, IntKind.wrap_u64]; omega), rfl⟩
  · go_enter Try.func25, Try.ntmps25
    go_wp2
    go_ret
    exact ⟨ret_int (by unfold dd; rw [if_neg (by omega)]), rfl⟩

set_option maxHeartbeats 800000 in
theorem quoFloor_any (n d : Int) (w : World) (hd : d ≠ 0) (h1 : -9223372036854775808 < n) (h2 : n < 9223372036854775808) (h3 : -9223372036854775808 < d) (h4 : d < 9223372036854775808) :
    Calls Try.prog 16 #[.int .i64 n, .int .i64 d] w fun e w' => e = .returned (.int .i64 (flo n d)) ∧ w = w' := by
  have hd0 : (d == 0) = false := by simpa using hd
  obtain ⟨hb1, hb2⟩ := (tdiv_bd n d h1 h2).1
  by_cases hr : n.tmod d = 0
  · have hr0 : (n.tmod d != 0) = false := by simpa using hr
    have HF : Hid (flo n d = n.tdiv d) := by unfold Hid flo; simp [hr]
    clear hr
    go_enter Try.func16, Try.ntmps16
    go_wp2
    all_goals (first | (exfalso; simp_all; done) | skip)
    go_ret
    exact ⟨ret_int HF.out.symm, rfl⟩
  · have hr0 : (n.tmod d != 0) = true := by simpa using hr
    have hg := (tdiv_bd n d h1 h2).2 (by have := tparts n d hd; omega)
    have HF : Hid (flo n d = if (!(decide (n < 0) == decide (d < 0))) = true then n.tdiv d - 1 else n.tdiv d) := by unfold Hid flo; simp [hr]
    obtain ⟨hg1, hg2⟩ := hg
    clear hr
    cases hs : (!(decide (n < 0) == decide (d < 0)))
    all_goals
      rw [hs] at HF
      go_enter Try.func16, Try.ntmps16
      go_wp2
      all_goals (first | (exfalso; simp_all; done) | skip)
      go_ret
      exact ⟨ret_int (by rw [HF.out]; rfl), rfl⟩

set_option maxHeartbeats 800000 in
theorem zzFloor_any (n d : Int) (w : World) (hd : d ≠ 0) (h1 : -9223372036854775808 < n) (h2 : n < 9223372036854775808) (h3 : -9223372036854775808 < d) (h4 : d < 9223372036854775808) :
    Calls Try.prog 8 #[.int .i64 n, .int .i64 d] w fun e w' => e = .returned (.int .i64 (flo n d)) ∧ w = w' := by
  go_enter Try.func8, Try.ntmps8
  go_wp2_with (go_at_call 16; refine (quoFloor_any n d _ hd h1 h2 h3 h4).mono ?_; rintro e w' ⟨rfl, rfl⟩)
  go_ret
  exact ⟨rfl, rfl⟩

theorem tmod_bd (n d : Int) (hd : d ≠ 0) (h3 : -9223372036854775808 < d) (h4 : d < 9223372036854775808) : -9223372036854775808 < n.tmod d ∧ n.tmod d < 9223372036854775808 := by
  have := tparts n d hd
  have : dd d < 9223372036854775808 := by unfold dd; split <;> omega
  omega

set_option maxHeartbeats 800000 in
theorem quoHalf_any (n d : Int) (w : World) (hd : d ≠ 0) (h1 : -9223372036854775808 < n) (h2 : n < 9223372036854775808) (h3 : -9223372036854775808 < d) (h4 : d < 9223372036854775808) :
    Calls Try.prog 17 #[.int .i64 n, .int .i64 d] w fun e w' => e = .returned (.int .i64 (hal n d)) ∧ ∃ k, w' = w.drewN k := by
  have hd0 : (d == 0) = false := by simpa using hd
  obtain ⟨hb1, hb2⟩ := (tdiv_bd n d h1 h2).1
  obtain ⟨hm1, hm2⟩ := tmod_bd n d hd h3 h4
  go_enter Try.func17, Try.ntmps17
  go_wp2
  go_quiet (fail)
  have hd1 : dd d < 9223372036854775808 := by unfold dd; split <;> omega
  have hd2 : 0 ≤ dd (n.tmod d) := by unfold dd; split <;> omega
  have hd3 : dd (n.tmod d) < dd d := by have := tparts n d hd; unfold dd at *; split <;> omega
  have hg : dd d ≤ 2 * dd (n.tmod d) → -4611686018427387904 ≤ n.tdiv d ∧ n.tdiv d ≤ 4611686018427387904 := fun h => (tdiv_bd n d h1 h2).2 (by omega)
  have HF : Hid (hal n d = if dd d ≤ 2 * dd (n.tmod d) then (if (decide (n < 0) == decide (d < 0)) = true then n.tdiv d + 1 else n.tdiv d - 1) else n.tdiv d) := by unfold Hid hal; simp
  go_wp2_with fail
  refine (abs64_any (n.tmod d) _ hm1 hm2).mono ?_
  rintro e w1 ⟨rfl, rfl⟩
  go_wp2_with fail
  refine (abs64_any d _ h3 h4).mono ?_
  rintro e w1 ⟨rfl, rfl⟩
  generalize dd (n.tmod d) = ar at *
  generalize dd d = ad at *
  by_cases hc : ad - ar ≤ ar
  · obtain ⟨hg1, hg2⟩ := hg (by omega)
    rw [if_pos (by omega)] at HF
    clear hg
    cases hs : (decide (n < 0) == decide (d < 0))
    all_goals
      rw [hs] at HF
      go_wp2
      go_ret
      exact ⟨ret_int (by rw [HF.out]; rfl), _, rfl⟩
  · rw [if_neg (by omega)] at HF
    clear hg
    go_wp2
    go_ret
    exact ⟨ret_int (by rw [HF.out]), _, rfl⟩

set_option maxHeartbeats 800000 in
theorem zzHalf_any (n d : Int) (w : World) (hd : d ≠ 0) (h1 : -9223372036854775808 < n) (h2 : n < 9223372036854775808) (h3 : -9223372036854775808 < d) (h4 : d < 9223372036854775808) :
    Calls Try.prog 9 #[.int .i64 n, .int .i64 d] w fun e w' => e = .returned (.int .i64 (hal n d)) ∧ ∃ k, w' = w.drewN k := by
  go_enter Try.func9, Try.ntmps9
  go_wp2_with (go_at_call 17; refine (quoHalf_any n d _ hd h1 h2 h3 h4).mono ?_; rintro e w' ⟨rfl, k, rfl⟩)
  go_ret
  exact ⟨rfl, k, rfl⟩
end Go.Proofs.Qxb6619613a
