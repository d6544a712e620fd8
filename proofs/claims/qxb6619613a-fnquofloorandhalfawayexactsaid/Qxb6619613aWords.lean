/- THE WALKS of the 128-bit helpers: each argument and result is 'wd z': the two words of an integer z modulo 2^128. -/
import Derived.Test.Qxb6619613aRows
import Derived.Test.Qxb6619613aArith
import Derived.WalkKit
import Derived.WalkSpells
import Derived.ProofKit
import Derived.BigQuiet
import Derived.Lib.Zigzag
import Derived.Laws.BitsAllLaws
namespace Go.Proofs.Qxb6619613a
open Go.RowKit Go.Proofs.Qxb6619613a.Pl
set_option linter.unusedVariables false

theorem bcell {W w1 : World} (hb : Below W.heap.size W w1) : (∀ b o, b < W.heap.size → w1.cell? ⟨b, o, none⟩ = W.cell? ⟨b, o, none⟩) ∧ (∀ b o, b < W.heap.size → w1.frozen? ⟨b, o, none⟩ = W.frozen? ⟨b, o, none⟩) :=
  ⟨fun b o h => hb.cell (p := ⟨b, o, none⟩) h, fun b o h => hb.frozen (p := ⟨b, o, none⟩) h⟩

theorem ret_agg {a b c d : Int} (h : a = c) (h' : b = d) : Ending.returned (.agg #[.int .u64 a, .int .u64 b]) = .returned (.agg #[.int .u64 c, .int .u64 d]) := by rw [h, h']

/-- the complement of a word -/
def cpl (x : Int) : Int := 18446744073709551615 - x
theorem cpl_bits (x : Int) (h1 : 0 ≤ x) (h2 : x < 18446744073709551616) : bits .xor .u64 IntKind.u64.max x = cpl x := by
  have e : IntKind.u64.max = ((18446744073709551615 : Nat) : Int) := by rfl
  obtain ⟨n, rfl⟩ := Int.eq_ofNat_of_zero_le h1
  rw [e, u64_xor_nat _ _ (by decide) (by omega)]
  have h := Lib.xor_ones64 n (by omega)
  have e2 : (18446744073709551615 : Nat) = 2 ^ 64 - 1 := by rfl
  rw [e2, h]
  unfold cpl
  omega

set_option maxHeartbeats 400000 in
theorem from64_any (x : Int) (w : World) (h1 : -9223372036854775808 ≤ x) (h2 : x < 9223372036854775808) :
    Calls Try.prog 19 #[.int .i64 x] w fun e w' => e = .returned (.agg #[.int .u64 (hi x), .int .u64 (lo x)]) ∧ Below w.heap.size w w' := by
  by_cases h : x < 0
  · go_enter Try.func19, Try.ntmps19
    go_wp2
    exact bodyPost_ret (v := .agg #[.int .u64 18446744073709551615, .int .u64 (IntKind.u64.wrap x)]) (by simp [results, Try.results19, go_sem]) rfl ⟨ret_agg (by unfold hi; omega) (by rw [IntKind.wrap_u64]; rfl), (Below.refl _ _).alloc (Nat.le_refl _) _⟩
  · go_enter Try.func19, Try.ntmps19
    go_wp2
    exact bodyPost_ret (v := .agg #[.int .u64 0, .int .u64 x]) (by simp [results, Try.results19, go_sem]) rfl ⟨ret_agg (by unfold hi; omega) (by unfold lo; omega), (Below.refl _ _).alloc (Nat.le_refl _) _⟩

set_option maxHeartbeats 400000 in
theorem add_any (a b : Int) (w : World) :
    Calls Try.prog 21 #[.agg #[.int .u64 (hi a), .int .u64 (lo a)], .agg #[.int .u64 (hi b), .int .u64 (lo b)]] w fun e w' => e = .returned (.agg #[.int .u64 (hi (a + b)), .int .u64 (lo (a + b))]) ∧ Below w.heap.size w w' := by
  obtain ⟨a1, a2⟩ := lo_bd a
  obtain ⟨a3, a4⟩ := hi_bd a
  obtain ⟨b1, b2⟩ := lo_bd b
  obtain ⟨b3, b4⟩ := hi_bd b
  have e1 : IntKind.u64.wrap (lo a + lo b) = lo (a + b) := by rw [IntKind.wrap_u64, add_lo]
  by_cases h : lo (a + b) < lo a
  · have e2 : IntKind.u64.wrap (IntKind.u64.wrap (hi a + hi b) + 1) = hi (a + b) := by rw [IntKind.wrap_u64, IntKind.wrap_u64, ← add_carry a b h]; omega
    go_enter Try.func21, Try.ntmps21
    go_wp2
    exact bodyPost_ret (v := .agg #[.int .u64 (hi (a + b)), .int .u64 (lo (a + b))]) (by simp [results, Try.results21, go_sem]) rfl ⟨rfl, (((Below.refl _ _).alloc (Nat.le_refl _) _).alloc (by simp) _).alloc (by simp; omega) _⟩
  · have e2 : IntKind.u64.wrap (hi a + hi b) = hi (a + b) := by rw [IntKind.wrap_u64, ← add_plain a b h]
    have e3 : IntKind.u64.wrap (hi (a + b)) = hi (a + b) := by rw [IntKind.wrap_u64]; have := hi_bd (a + b); omega
    go_enter Try.func21, Try.ntmps21
    go_wp2
    exact bodyPost_ret (v := .agg #[.int .u64 (hi (a + b)), .int .u64 (lo (a + b))]) (by simp [results, Try.results21, go_sem]) rfl ⟨rfl, (((Below.refl _ _).alloc (Nat.le_refl _) _).alloc (by simp) _).alloc (by simp; omega) _⟩

set_option maxHeartbeats 400000 in
theorem neg_any (a : Int) (w : World) :
    Calls Try.prog 23 #[.agg #[.int .u64 (hi a), .int .u64 (lo a)]] w fun e w' => e = .returned (.agg #[.int .u64 (hi (-a)), .int .u64 (lo (-a))]) ∧ Below w.heap.size w w' := by
  obtain ⟨a1, a2⟩ := lo_bd a
  obtain ⟨a3, a4⟩ := hi_bd a
  have hsg : IntKind.u64.signed = false := rfl
  have e1 := cpl_bits (lo a) a1 a2
  have e2 := cpl_bits (hi a) a3 a4
  have e3 : IntKind.u64.wrap (cpl (lo a) + 1) = lo (-a) := by rw [IntKind.wrap_u64, ← neg_lo]; rfl
  by_cases h : lo (-a) = 0
  · have e4 : IntKind.u64.wrap (cpl (hi a) + 1) = hi (-a) := by rw [IntKind.wrap_u64, ← neg_carry a h]; rfl
    have e5 : (lo (-a) == 0) = true := by simpa using h
    clear h
    go_enter Try.func23, Try.ntmps23
    go_wp2
    exact bodyPost_ret (v := .agg #[.int .u64 (hi (-a)), .int .u64 (lo (-a))]) (by simp [results, Try.results23, go_sem]) rfl ⟨rfl, (((Below.refl _ _).alloc (Nat.le_refl _) _).alloc (by simp) _)⟩
  · have e4 : cpl (hi a) = hi (-a) := by rw [← neg_plain a h]; rfl
    have e5 : (lo (-a) == 0) = false := by simpa using h
    clear h
    go_enter Try.func23, Try.ntmps23
    go_wp2
    exact bodyPost_ret (v := .agg #[.int .u64 (hi (-a)), .int .u64 (lo (-a))]) (by simp [results, Try.results23, go_sem]) rfl ⟨rfl, (((Below.refl _ _).alloc (Nat.le_refl _) _).alloc (by simp) _)⟩
end Go.Proofs.Qxb6619613a
