/- PLAIN ARITHMETIC, no Go in sight: a signed 128-bit number as two words; the floor and the rounding by halves away from zero. -/
import Derived.Below
namespace Go.Proofs.Qxb6619613a.Pl
/-! ### two words: 'lo z', 'hi z': z modulo 2^128 -/
def lo (z : Int) : Int := z % 18446744073709551616
def hi (z : Int) : Int := (z / 18446744073709551616) % 18446744073709551616
theorem lo_bd (z : Int) : 0 ≤ lo z ∧ lo z < 18446744073709551616 := by unfold lo; omega
theorem hi_bd (z : Int) : 0 ≤ hi z ∧ hi z < 18446744073709551616 := by unfold hi; omega
theorem add_lo (a b : Int) : (lo a + lo b) % 18446744073709551616 = lo (a + b) := by unfold lo; omega
theorem add_carry (a b : Int) (h : lo (a + b) < lo a) : (hi a + hi b + 1) % 18446744073709551616 = hi (a + b) := by unfold hi; unfold lo at h; omega
theorem add_plain (a b : Int) (h : ¬ lo (a + b) < lo a) : (hi a + hi b) % 18446744073709551616 = hi (a + b) := by unfold hi; unfold lo at h; omega
theorem neg_lo (a : Int) : (18446744073709551615 - lo a + 1) % 18446744073709551616 = lo (-a) := by unfold lo; omega
theorem neg_carry (a : Int) (h : lo (-a) = 0) : (18446744073709551615 - hi a + 1) % 18446744073709551616 = hi (-a) := by unfold hi; unfold lo at h; omega
theorem neg_plain (a : Int) (h : ¬ lo (-a) = 0) : 18446744073709551615 - hi a = hi (-a) := by unfold hi; unfold lo at h; omega
def sg (h : Int) : Int := if h < 9223372036854775808 then h else h - 18446744073709551616
def M : Int := 170141183460469231731687303715884105728
theorem less_hi (a b : Int) (h1 : -M ≤ a) (h2 : a < M) (h3 : -M ≤ b) (h4 : b < M) (h : ¬ hi a = hi b) : (sg (hi a) < sg (hi b)) ↔ a < b := by
  unfold sg hi at *; unfold M at *
  split <;> split <;> omega
theorem less_lo (a b : Int) (h1 : -M ≤ a) (h2 : a < M) (h3 : -M ≤ b) (h4 : b < M) (h : hi a = hi b) : (lo a < lo b) ↔ a < b := by
  unfold lo hi at *; unfold M at *
  omega
theorem eq_both (a b : Int) (h1 : -M ≤ a) (h2 : a < M) (h3 : -M ≤ b) (h4 : b < M) : (hi a = hi b ∧ lo a = lo b) ↔ a = b := by
  unfold lo hi at *; unfold M at *
  omega
theorem split_mul (a b : Int) : a * b = (a / 4294967296) * (b / 4294967296) * 18446744073709551616 + ((a / 4294967296) * (b % 4294967296) + (a % 4294967296) * (b / 4294967296)) * 4294967296 + (a % 4294967296) * (b % 4294967296) := by
  have ha : a = a / 4294967296 * 4294967296 + a % 4294967296 := by omega
  have hb : b = b / 4294967296 * 4294967296 + b % 4294967296 := by omega
  generalize a / 4294967296 = a1 at *
  generalize a % 4294967296 = a0 at *
  generalize b / 4294967296 = b1 at *
  generalize b % 4294967296 = b0 at *
  subst ha; subst hb
  simp only [Int.add_mul, Int.mul_add]
  have e1 : a1 * 4294967296 * (b1 * 4294967296) = a1 * b1 * 18446744073709551616 := by
    rw [Int.mul_assoc, Int.mul_comm 4294967296 (b1 * 4294967296), ← Int.mul_assoc, ← Int.mul_assoc, Int.mul_assoc (a1 * b1)]; rfl
  have e2 : a1 * 4294967296 * b0 = a1 * b0 * 4294967296 := by rw [Int.mul_assoc, Int.mul_comm 4294967296, ← Int.mul_assoc]
  have e3 : a0 * (b1 * 4294967296) = a0 * b1 * 4294967296 := by rw [Int.mul_assoc]
  omega
theorem mul_bd (x y B C : Int) (hx : 0 ≤ x) (hxB : x ≤ B) (hy : 0 ≤ y) (hyC : y ≤ C) : 0 ≤ x * y ∧ x * y ≤ B * C :=
  ⟨Int.mul_nonneg hx hy, Int.mul_le_mul hxB hyC hy (by omega)⟩
theorem mulu_hi (a b : Int) (ha : 0 ≤ a) (ha' : a < 18446744073709551616) (hb : 0 ≤ b) (hb' : b < 18446744073709551616) :
    let a0 := a % 4294967296; let a1 := a / 4294967296; let b0 := b % 4294967296; let b1 := b / 4294967296
    let t := a1 * b0 + a0 * b0 / 4294967296
    (0 ≤ a0 * b0 ∧ a0 * b0 < 18446744073709551616) ∧ (0 ≤ a1 * b0 ∧ t < 18446744073709551616) ∧ (0 ≤ a0 * b1 ∧ t % 4294967296 + a0 * b1 < 18446744073709551616) ∧
    (0 ≤ a1 * b1 ∧ a1 * b1 + t / 4294967296 + (t % 4294967296 + a0 * b1) / 4294967296 < 18446744073709551616) ∧
    a1 * b1 + t / 4294967296 + (t % 4294967296 + a0 * b1) / 4294967296 = hi (a * b) := by
  intro a0 a1 b0 b1 t
  have hs := split_mul a b
  have i0 : 0 ≤ a % 4294967296 ∧ a % 4294967296 ≤ 4294967295 := by omega
  have i1 : 0 ≤ a / 4294967296 ∧ a / 4294967296 ≤ 4294967295 := by omega
  have j0 : 0 ≤ b % 4294967296 ∧ b % 4294967296 ≤ 4294967295 := by omega
  have j1 : 0 ≤ b / 4294967296 ∧ b / 4294967296 ≤ 4294967295 := by omega
  have p00 := mul_bd _ _ _ _ i0.1 i0.2 j0.1 j0.2
  have p01 := mul_bd _ _ _ _ i0.1 i0.2 j1.1 j1.2
  have p10 := mul_bd _ _ _ _ i1.1 i1.2 j0.1 j0.2
  have p11 := mul_bd _ _ _ _ i1.1 i1.2 j1.1 j1.2
  simp only [a0, a1, b0, b1, t]
  unfold hi
  rw [hs]
  generalize a / 4294967296 * (b / 4294967296) = q11 at *
  generalize a / 4294967296 * (b % 4294967296) = q10 at *
  generalize a % 4294967296 * (b / 4294967296) = q01 at *
  generalize a % 4294967296 * (b % 4294967296) = q00 at *
  omega
/-! ### the floor; the nearest, halves away from zero -/
/-- the floor, as the code reckons it -/
def flo (n d : Int) : Int := if n.tmod d ≠ 0 ∧ decide (n < 0) ≠ decide (d < 0) then n.tdiv d - 1 else n.tdiv d
def nn (n d : Int) : Int := if d < 0 then -n else n
def dd (d : Int) : Int := if d < 0 then -d else d
theorem tparts (n d : Int) (hd : d ≠ 0) : n.tdiv d * d + n.tmod d = n ∧ (0 ≤ n → 0 ≤ n.tmod d) ∧ (n ≤ 0 → n.tmod d ≤ 0) ∧ n.tmod d < dd d ∧ -(dd d) < n.tmod d := by
  have e := Int.tdiv_mul_add_tmod n d
  have p : 0 ≤ n → 0 ≤ n.tmod d := fun h => Int.tmod_nonneg d h
  have q : n ≤ 0 → n.tmod d ≤ 0 := fun h => by
    have := Int.tmod_nonneg d (a := -n) (by omega)
    rw [Int.neg_tmod] at this; omega
  have l : (n.tmod d).natAbs < d.natAbs := by rw [Int.natAbs_tmod]; exact Nat.mod_lt _ (by omega)
  refine ⟨e, p, q, ?_, ?_⟩ <;> unfold dd <;> split <;> omega
theorem nn_eq (n d : Int) (hd : d ≠ 0) : nn n d = n.tdiv d * dd d + nn (n.tmod d) d := by
  have e := (tparts n d hd).1
  unfold nn dd
  split
  · rw [Int.mul_neg]; omega
  · omega
theorem flo_ok (n d : Int) (hd : d ≠ 0) : flo n d * dd d ≤ nn n d ∧ nn n d < flo n d * dd d + dd d := by
  have e := nn_eq n d hd
  obtain ⟨e0, p, q, l1, l2⟩ := tparts n d hd
  have hs : n.tmod d ≠ 0 → decide (n < 0) ≠ decide (d < 0) → (nn (n.tmod d) d < 0) := by
    intro h1 h2
    unfold nn
    by_cases a : n < 0 <;> by_cases b : d < 0 <;> simp [a, b] at h2 ⊢ <;> omega
  have ht : ¬ (n.tmod d ≠ 0 ∧ decide (n < 0) ≠ decide (d < 0)) → (0 ≤ nn (n.tmod d) d) := by
    intro h
    unfold nn
    by_cases a : n < 0 <;> by_cases b : d < 0 <;> simp [a, b] at h ⊢ <;> omega
  have l : nn (n.tmod d) d < dd d ∧ - dd d < nn (n.tmod d) d := by unfold nn; split <;> omega
  unfold flo
  split
  · rename_i h
    have := hs h.1 h.2
    rw [Int.sub_mul, Int.one_mul]
    omega
  · rename_i h
    have := ht h
    omega
theorem dd_pos (d : Int) (hd : d ≠ 0) : 0 < dd d := by unfold dd; split <;> omega
theorem uniq (q n d : Int) (hd : 0 < d) (h1 : q * d ≤ n) (h2 : n < q * d + d) : q = n / d := by
  have e : n = (n - q * d) + q * d := by omega
  rw [e, Int.add_mul_ediv_right _ _ (by omega), Int.ediv_eq_zero_of_lt (by omega) (by omega)]; omega
theorem flo_eq (n d : Int) (hd : d ≠ 0) : flo n d = nn n d / dd d := uniq _ _ _ (dd_pos d hd) (flo_ok n d hd).1 (flo_ok n d hd).2
theorem flo_shift (n d : Int) (hd : d ≠ 0) : flo (n + d) d = flo n d + 1 := by
  rw [flo_eq _ _ hd, flo_eq _ _ hd]
  have : nn (n + d) d = nn n d + 1 * dd d := by unfold nn dd; split <;> omega
  rw [this, Int.add_mul_ediv_right _ _ (by have := dd_pos d hd; omega)]
theorem flo_flip (n d : Int) (hd : d ≠ 0) : flo (-n) (-d) = flo n d := by
  rw [flo_eq _ _ hd, flo_eq _ _ (by omega)]
  have e1 : nn (-n) (-d) = nn n d := by unfold nn; split <;> split <;> omega
  have e2 : dd (-d) = dd d := by unfold dd; split <;> split <;> omega
  rw [e1, e2]
def hal (n d : Int) : Int :=
  if dd d ≤ 2 * dd (n.tmod d) then (if decide (n < 0) = decide (d < 0) then n.tdiv d + 1 else n.tdiv d - 1) else n.tdiv d
theorem hal_ok (n d : Int) (hd : d ≠ 0) : let D := nn n d - hal n d * dd d; -(dd d) ≤ 2 * D ∧ 2 * D ≤ dd d ∧ (2 * D = dd d → nn n d < 0) ∧ (2 * D = -(dd d) → 0 < nn n d) := by
  intro D
  have e := nn_eq n d hd
  obtain ⟨e0, p, q, l1, l2⟩ := tparts n d hd
  have hp := dd_pos d hd
  have k1 : dd (n.tmod d) = nn (n.tmod d) d ∨ dd (n.tmod d) = - nn (n.tmod d) d := by unfold dd nn; split <;> split <;> omega
  have k2 : 0 ≤ dd (n.tmod d) := by unfold dd; split <;> omega
  have k3 : decide (n < 0) = decide (d < 0) → 0 ≤ nn n d ∧ 0 ≤ nn (n.tmod d) d := by
    intro h2
    unfold nn
    by_cases a : n < 0 <;> by_cases b : d < 0 <;> simp [a, b] at h2 ⊢ <;> omega
  have k4 : decide (n < 0) ≠ decide (d < 0) → nn n d ≤ 0 ∧ nn (n.tmod d) d ≤ 0 := by
    intro h2
    unfold nn
    by_cases a : n < 0 <;> by_cases b : d < 0 <;> simp [a, b] at h2 ⊢ <;> omega
  have k5 : nn (n.tmod d) d < dd d ∧ - dd d < nn (n.tmod d) d := by unfold nn; split <;> omega
  have k6 : dd (n.tmod d) ≠ 0 → nn n d ≠ 0 := by
    intro h h'
    have : n = 0 := by unfold nn at h'; split at h' <;> omega
    have : n.tmod d = 0 := by have := p (by omega); have := q (by omega); omega
    rw [this] at h; simp [dd] at h
  simp only [D]
  unfold hal
  split
  · split
    · rename_i h; have := k3 h
      rw [Int.add_mul, Int.one_mul]; omega
    · rename_i h; have := k4 h
      rw [Int.sub_mul, Int.one_mul]; omega
  · by_cases h : decide (n < 0) = decide (d < 0)
    · have := k3 h; omega
    · have := k4 h; omega
theorem hal_negn (n d : Int) (hd : d ≠ 0) : hal (-n) d = - hal n d := by
  by_cases h0 : n = 0
  · subst h0; have := dd_pos d hd; simp [hal, dd]; split <;> omega
  · unfold hal
    rw [Int.neg_tmod, Int.neg_tdiv]
    have e : dd (-(n.tmod d)) = dd (n.tmod d) := by unfold dd; split <;> split <;> omega
    rw [e]
    split
    · by_cases a : n < 0 <;> by_cases b : d < 0 <;> simp [a, b] <;> (try split) <;> omega
    · omega
theorem hal_negd (n d : Int) (hd : d ≠ 0) : hal n (-d) = - hal n d := by
  by_cases h0 : n = 0
  · subst h0; have := dd_pos d hd; have := dd_pos (-d) (by omega); simp [hal, dd]; split <;> split <;> omega
  · unfold hal
    rw [Int.tmod_neg, Int.tdiv_neg]
    have e : dd (-d) = dd d := by unfold dd; split <;> split <;> omega
    rw [e]
    split
    · by_cases a : n < 0 <;> by_cases b : d < 0 <;> simp [a, b] <;> (try split) <;> omega
    · omega
theorem tdiv_bd (n d : Int) (h1 : -9223372036854775808 < n) (h2 : n < 9223372036854775808) :
    (-9223372036854775808 < n.tdiv d ∧ n.tdiv d < 9223372036854775808) ∧ (2 ≤ dd d → -4611686018427387904 ≤ n.tdiv d ∧ n.tdiv d ≤ 4611686018427387904) := by
  have e : (n.tdiv d).natAbs = n.natAbs / d.natAbs := Int.natAbs_tdiv n d
  have l : n.natAbs / d.natAbs ≤ n.natAbs := Nat.div_le_self _ _
  refine ⟨by omega, fun h => ?_⟩
  have l2 : n.natAbs / d.natAbs ≤ n.natAbs / 2 := Nat.div_le_div_left (by unfold dd at h; split at h <;> omega) (by omega)
  omega
theorem flo_bd (n d : Int) (hd : d ≠ 0) (h1 : -9223372036854775808 < n) (h2 : n < 9223372036854775808) : -9223372036854775808 < flo n d ∧ flo n d < 9223372036854775808 := by
  have b := tdiv_bd n d h1 h2
  obtain ⟨e0, p, q, l1, l2⟩ := tparts n d hd
  unfold flo
  split
  · rename_i h; have := b.2 (by have := h.1; omega); omega
  · omega
theorem hal_bd (n d : Int) (hd : d ≠ 0) (h1 : -9223372036854775808 < n) (h2 : n < 9223372036854775808) : -9223372036854775808 < hal n d ∧ hal n d < 9223372036854775808 := by
  have b := tdiv_bd n d h1 h2
  obtain ⟨e0, p, q, l1, l2⟩ := tparts n d hd
  have hp := dd_pos d hd
  have k2 : dd (n.tmod d) < dd d := by unfold dd at *; split <;> split <;> simp_all <;> omega
  unfold hal
  split
  · have := b.2 (by omega); split <;> omega
  · omega
theorem hal_flo (n d : Int) (hd : d ≠ 0) : hal n d = flo n d ∨ hal n d = flo n d + 1 := by
  have a := flo_ok n d hd
  have b := hal_ok n d hd
  have hp := dd_pos d hd
  have e : hal n d = flo n d + (hal n d - flo n d) := by omega
  generalize hal n d - flo n d = k at e
  rw [e] at b ⊢
  simp only [Int.add_mul] at b
  by_cases h1 : k ≤ -1
  · have := Int.mul_le_mul_of_nonneg_right h1 (Int.le_of_lt hp); omega
  by_cases h2 : 2 ≤ k
  · have := Int.mul_le_mul_of_nonneg_right h2 (Int.le_of_lt hp); omega
  omega
end Go.Proofs.Qxb6619613a.Pl
