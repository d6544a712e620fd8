/- THE WALKS of what the law takes of package time: (*Time).nsec, sec, unixSec, addSec, (Time).Add, (Time).Unix, at times without a monotonic reading. -/
import Derived.Test.Qxb6623269aRows
import Derived.WalkKit
import Derived.WalkSpells
import Derived.ProofKit
import Derived.BigQuiet
import Derived.Laws.BitsAllLaws
namespace Go.Proofs.Qxb6623269a
open Go.RowKit
set_option linter.unusedVariables false

theorem ret_int {k : IntKind} {a b : Int} (h : a = b) : Ending.returned (.int k a) = .returned (.int k b) := by rw [h]

theorem mask30 (x : Int) (h1 : 0 ≤ x) (h2 : x < 1073741824) : bits .and .u64 x 1073741823 = x := by
  obtain ⟨n, rfl⟩ := Int.eq_ofNat_of_zero_le h1
  have e : (1073741823 : Int) = ((1073741823 : Nat) : Int) := rfl
  rw [e, u64_and_nat _ _ (by omega) (by decide)]
  have h := Nat.and_two_pow_sub_one_eq_mod n 30
  have e2 : (1073741823 : Nat) = 2 ^ 30 - 1 := by rfl
  rw [e2, h]
  omega
theorem mono0 (x : Int) (h1 : 0 ≤ x) (h2 : x < 1073741824) : bits .and .u64 x 9223372036854775808 = 0 := by
  obtain ⟨n, rfl⟩ := Int.eq_ofNat_of_zero_le h1
  have e : (9223372036854775808 : Int) = ((9223372036854775808 : Nat) : Int) := rfl
  rw [e, u64_and_nat _ _ (by omega) (by decide)]
  have h := nat_bit 63 n
  have e2 : (9223372036854775808 : Nat) = 2 ^ 63 := by rfl
  rw [e2, h, Nat.div_eq_of_lt (by omega)]
  simp

set_option maxHeartbeats 400000 in
theorem nsec_any (b : Nat) (wl : Int) (w : World) (h1 : 0 ≤ wl) (h2 : wl < 1073741824) (hc : w.cell? ⟨b, 0, none⟩ = some (.int .u64 wl)) :
    Calls Try.prog 11 #[.pointer (some ⟨b, 0, none⟩)] w fun e w' => e = .returned (.int .i32 wl) ∧ w = w' := by
  have hm := mask30 wl h1 h2
  go_enter Try.func11, Try.ntmps11
  go_wp2
  go_ret
  exact ⟨rfl, rfl⟩

set_option maxHeartbeats 400000 in
theorem sec_any (b : Nat) (wl ex : Int) (w : World) (h1 : 0 ≤ wl) (h2 : wl < 1073741824) (hc : w.cell? ⟨b, 0, none⟩ = some (.int .u64 wl)) (hc1 : w.cell? ⟨b, 1, none⟩ = some (.int .i64 ex)) :
    Calls Try.prog 15 #[.pointer (some ⟨b, 0, none⟩)] w fun e w' => e = .returned (.int .i64 ex) ∧ w = w' := by
  have hm := mono0 wl h1 h2
  go_enter Try.func15, Try.ntmps15
  go_wp2
  go_ret
  exact ⟨rfl, rfl⟩

set_option maxHeartbeats 400000 in
theorem unixSec_any (b : Nat) (wl ex : Int) (w : World) (h1 : 0 ≤ wl) (h2 : wl < 1073741824) (x1 : 0 ≤ ex) (x2 : ex < 4294967296) (hc : w.cell? ⟨b, 0, none⟩ = some (.int .u64 wl)) (hc1 : w.cell? ⟨b, 1, none⟩ = some (.int .i64 ex)) :
    Calls Try.prog 14 #[.pointer (some ⟨b, 0, none⟩)] w fun e w' => e = .returned (.int .i64 (ex - 62135596800)) ∧ w = w' := by
  go_enter Try.func14, Try.ntmps14
  go_wp2_with (go_at_call 15; refine (sec_any b wl ex _ h1 h2 hc hc1).mono ?_; rintro e w' ⟨rfl, rfl⟩)
  go_ret
  exact ⟨ret_int (by omega), rfl⟩

set_option maxHeartbeats 800000 in
theorem addSec_any (b : Nat) (wl ex d : Int) (w : World) (h1 : 0 ≤ wl) (h2 : wl < 1073741824) (x1 : 0 ≤ ex) (x2 : ex < 4294967296) (d1 : 0 ≤ d) (d2 : d < 9223372037) (hc : w.cell? ⟨b, 0, none⟩ = some (.int .u64 wl)) (hc1 : w.cell? ⟨b, 1, none⟩ = some (.int .i64 ex)) (hf : w.frozen? ⟨b, 1, none⟩ = false) :
    Calls Try.prog 12 #[.pointer (some ⟨b, 0, none⟩), .int .i64 d] w fun e w' => e = .returned (.tuple #[]) ∧ w.setCell ⟨b, 1, none⟩ (.int .i64 (ex + d)) = w' := by
  have hm := mono0 wl h1 h2
  by_cases hp : 0 < d
  · have hq : ex < ex + d := by omega
    go_enter Try.func12, Try.ntmps12
    go_wp2
    go_end0
    exact ⟨rfl, rfl⟩
  · have hq : ¬ ex < ex + d := by omega
    go_enter Try.func12, Try.ntmps12
    go_wp2
    go_end0
    exact ⟨rfl, rfl⟩

set_option maxHeartbeats 400000 in
theorem unix_any (wl ex : Int) (w : World) (h1 : 0 ≤ wl) (h2 : wl < 1073741824) (x1 : 0 ≤ ex) (x2 : ex < 4294967296) :
    Calls Try.prog 9 #[.agg #[.int .u64 wl, .int .i64 ex, .pointer none]] w fun e w' => e = .returned (.int .i64 (ex - 62135596800)) ∧ w.alloc (.cells #[.int .u64 wl, .int .i64 ex, .pointer none] 31) = w' := by
  go_enter Try.func9, Try.ntmps9
  go_wp2_with fail
  refine (unixSec_any w.heap.size wl ex _ h1 h2 x1 x2 (World.cell?_alloc_at _ _ _ _ rfl) (World.cell?_alloc_at _ _ _ _ rfl)).mono ?_
  rintro e w' ⟨rfl, rfl⟩
  go_wp2
  go_ret
  exact ⟨rfl, rfl⟩

theorem or_zero (x : Int) (h1 : 0 ≤ x) (h2 : x < 18446744073709551616) : bits .or .u64 0 x = x := by
  rw [u64_or 0 x (by decide) (by decide) h1 h2]
  simp
  omega
theorem andNot_zero : bits .andNot .u64 0 1073741823 = 0 := by
  rw [u64_andNot 0 1073741823 (by decide) (by decide) (by decide) (by decide)]
  simp

set_option maxHeartbeats 800000 in
theorem add_any (ex d : Int) (w : World) (x1 : 0 ≤ ex) (x2 : ex < 4294967296) (d1 : 0 ≤ d) (d2 : d < 9223372036854775808) (x3 : ex + d / 1000000000 < 4294967296) :
    Calls Try.prog 8 #[.agg #[.int .u64 0, .int .i64 ex, .pointer none], .int .i64 d] w fun e w' => e = .returned (.agg #[.int .u64 (d % 1000000000), .int .i64 (ex + d / 1000000000), .pointer none]) ∧
      (w.alloc (.cells #[.int .u64 (d % 1000000000), .int .i64 (ex + d / 1000000000), .pointer none] 31)).alloc (.cells #[.int .u64 (d % 1000000000), .int .i64 (ex + d / 1000000000), .pointer none] 31) = w' := by
  have m1 : 0 ≤ d % 1000000000 := by omega
  have m2 : d % 1000000000 < 1000000000 := by omega
  have m3 : 0 ≤ d / 1000000000 := by omega
  have m4 : d / 1000000000 < 9223372037 := by omega
  have e1 := andNot_zero
  have e2 := or_zero (d % 1000000000) m1 (by omega)
  have e3 := mono0 (d % 1000000000) m1 (by omega)
  go_enter Try.func8, Try.ntmps8
  go_wp2_with fail
  refine (nsec_any w.heap.size 0 _ (by omega) (by omega) (by simp [go_sem])).mono ?_
  rintro e w' ⟨rfl, rfl⟩
  go_wp2_with fail
  refine (addSec_any w.heap.size (d % 1000000000) ex (d / 1000000000) _ m1 (by omega) x1 x2 m3 m4 (by simp [go_sem]) (by simp [go_sem]) (by simp [go_sem])).mono ?_
  rintro e w' ⟨rfl, rfl⟩
  go_wp2
  exact bodyPost_ret (v := .agg #[.int .u64 (d % 1000000000), .int .i64 (ex + d / 1000000000), .pointer none]) (by simp [results, Try.results8, go_sem]) rfl ⟨rfl, rfl⟩

set_option maxHeartbeats 800000 in
theorem finishedAt_any (sec nano : Int) (w : World) (s1 : 0 ≤ sec) (s2 : sec < 4294967296) (n1 : 0 ≤ nano) (n2 : nano < 4294967296) :
    Calls Try.prog 5 #[.int .u32 sec, .int .u32 nano] w fun e w' => e = .returned (.agg #[.int .u64 (nano % 1000000000), .int .i64 sec, .pointer none]) ∧ Below w.heap.size w w' := by
  have k1 : sec * 1000000000 / 1000000000 = sec := by omega
  have k2 : sec * 1000000000 % 1000000000 = 0 := by omega
  have k3 : nano % 1000000000 / 1000000000 = 0 := by omega
  have k4 : nano % 1000000000 % 1000000000 = nano % 1000000000 := by omega
  go_enter Try.func5, Try.ntmps5
  go_wp2_with fail
  refine (add_any 0 (sec * 1000000000) _ (by omega) (by omega) (by omega) (by omega) (by omega)).mono ?_
  rintro e w' ⟨rfl, rfl⟩
  rw [k1, k2, Int.zero_add]
  go_wp2_with fail
  refine (add_any sec (nano % 1000000000) _ s1 s2 (by omega) (by omega) (by omega)).mono ?_
  rintro e w' ⟨rfl, rfl⟩
  rw [k3, k4, Int.add_zero]
  go_wp2
  refine bodyPost_ret (v := .agg #[.int .u64 (nano % 1000000000), .int .i64 sec, .pointer none]) (by simp [results, Try.results5, go_sem]) rfl ⟨rfl, ?_⟩
  exact ((((((Below.refl _ _).alloc (Nat.le_refl _) _).alloc (by simp) _).alloc (by simp; omega) _).alloc (by simp; omega) _).alloc (by simp; omega) _).alloc (by simp; omega) _
end Go.Proofs.Qxb6623269a
