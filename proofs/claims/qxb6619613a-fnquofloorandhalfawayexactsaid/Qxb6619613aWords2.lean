/- THE WALKS of b1Less, b1MulU, b1MulSU, b1Sub. -/
import Derived.Test.Qxb6619613aWords
import Derived.Deep.RegionWith
namespace Go.Proofs.Qxb6619613a
open Go.RowKit Go.Proofs.Qxb6619613a.Pl
set_option linter.unusedVariables false

theorem ret_bool' {a b : Bool} (h : a = b) : Ending.returned (.bool a) = .returned (.bool b) := by rw [h]

theorem two_cells {X : World} {b : Nat} {u0 u1 x y : Value} (h0 : X.cell? ⟨b, 0, none⟩ = some u0) (h1 : X.cell? ⟨b, 1, none⟩ = some u1) :
    ((X.setCell ⟨b, 0, none⟩ x).setCell ⟨b, 1, none⟩ y).cell? ⟨b, 0, none⟩ = some x ∧ ((X.setCell ⟨b, 0, none⟩ x).setCell ⟨b, 1, none⟩ y).cell? ⟨b, 1, none⟩ = some y := by
  refine ⟨?_, ?_⟩
  · rw [World.cell?_setCell_other _ _ _ _ (by simp)]; exact World.cell?_setCell_same _ _ _ h0
  · exact World.cell?_setCell_same _ _ _ (u := u1) (by rw [World.cell?_setCell_other _ _ _ _ (by simp)]; exact h1)
theorem far_cell {X : World} {b c o p : Nat} {x : Value} (h : ¬ b = c) : (X.setCell ⟨b, o, none⟩ x).cell? ⟨c, p, none⟩ = X.cell? ⟨c, p, none⟩ :=
  World.cell?_setCell_other _ _ _ _ (fun e => h (congrArg Addr.block e))

theorem sg_eq (x : Int) (h1 : 0 ≤ x) (h2 : x < 18446744073709551616) : wrap64 x = sg x := by
  unfold sg wrap64
  split <;> omega

set_option maxHeartbeats 400000 in
theorem less_any (a b : Int) (w : World) (h1 : -M ≤ a) (h2 : a < M) (h3 : -M ≤ b) (h4 : b < M) :
    Calls Try.prog 20 #[.agg #[.int .u64 (hi a), .int .u64 (lo a)], .agg #[.int .u64 (hi b), .int .u64 (lo b)]] w fun e w' => e = .returned (.bool (decide (a < b))) ∧ Below w.heap.size w w' := by
  obtain ⟨a1, a2⟩ := lo_bd a
  obtain ⟨a3, a4⟩ := hi_bd a
  obtain ⟨b1, b2⟩ := lo_bd b
  obtain ⟨b3, b4⟩ := hi_bd b
  by_cases h : hi a = hi b
  · have e1 : (hi a != hi b) = false := by simpa using h
    have HL := less_lo a b h1 h2 h3 h4 h
    have HH : Hid ((lo a < lo b) ↔ a < b) := HL
    clear HL h
    go_enter Try.func20, Try.ntmps20
    go_wp2
    go_ret
    exact ⟨ret_bool' (decide_eq_decide.2 HH.out), ((Below.refl _ _).alloc (Nat.le_refl _) _).alloc (by simp) _⟩
  · have e1 : (hi a != hi b) = true := by simpa using h
    have HL := less_hi a b h1 h2 h3 h4 h
    have HH : Hid ((sg (hi a) < sg (hi b)) ↔ a < b) := HL
    clear HL h
    go_enter Try.func20, Try.ntmps20
    go_wp2
    go_ret
    exact ⟨ret_bool' (by rw [sg_eq _ a3 a4, sg_eq _ b3 b4]; exact decide_eq_decide.2 HH.out), ((Below.refl _ _).alloc (Nat.le_refl _) _).alloc (by simp) _⟩

theorem and_mask (x : Int) (h1 : 0 ≤ x) (h2 : x < 18446744073709551616) : bits .and .u64 x 4294967295 = x % 4294967296 := by
  obtain ⟨n, rfl⟩ := Int.eq_ofNat_of_zero_le h1
  have e : (4294967295 : Int) = ((4294967295 : Nat) : Int) := rfl
  rw [e, u64_and_nat _ _ (by omega) (by decide)]
  have h := Nat.and_two_pow_sub_one_eq_mod n 32
  have e2 : (4294967295 : Nat) = 2 ^ 32 - 1 := by rfl
  rw [e2, h]
  omega

theorem wrap_id (x : Int) (h1 : 0 ≤ x) (h2 : x < 18446744073709551616) : IntKind.u64.wrap x = x := by rw [IntKind.wrap_u64]; omega

/-- the upper word of the product, as the code reckons it -/
def mh (a b : Int) : Int :=
  IntKind.u64.wrap
            (IntKind.u64.wrap
                (IntKind.u64.wrap (a / 4294967296 * (b / 4294967296)) +
                  IntKind.u64.wrap
                      (IntKind.u64.wrap (a / 4294967296 * bits BinOp.and IntKind.u64 b 4294967295) +
                        IntKind.u64.wrap
                            (bits BinOp.and IntKind.u64 a 4294967295 * bits BinOp.and IntKind.u64 b 4294967295) /
                          4294967296) /
                    4294967296) +
              IntKind.u64.wrap
                  (bits BinOp.and IntKind.u64
                      (IntKind.u64.wrap
                        (IntKind.u64.wrap (a / 4294967296 * bits BinOp.and IntKind.u64 b 4294967295) +
                          IntKind.u64.wrap
                              (bits BinOp.and IntKind.u64 a 4294967295 * bits BinOp.and IntKind.u64 b 4294967295) /
                            4294967296))
                      4294967295 +
                    IntKind.u64.wrap (bits BinOp.and IntKind.u64 a 4294967295 * (b / 4294967296))) /
                4294967296)

theorem mh_eq (a b : Int) (a1 : 0 ≤ a) (a2 : a < 18446744073709551616) (b1 : 0 ≤ b) (b2 : b < 18446744073709551616) : mh a b = hi (a * b) := by
  have hm := mulu_hi a b a1 a2 b1 b2
  simp only at hm
  obtain ⟨⟨p1, p2⟩, ⟨p3, p4⟩, ⟨p5, p6⟩, ⟨p7, p8⟩, p9⟩ := hm
  rw [← p9]
  unfold mh
  rw [and_mask a a1 a2, and_mask b b1 b2]
  generalize a % 4294967296 * (b % 4294967296) = q00 at *
  generalize a / 4294967296 * (b % 4294967296) = q10 at *
  generalize a % 4294967296 * (b / 4294967296) = q01 at *
  generalize a / 4294967296 * (b / 4294967296) = q11 at *
  rw [wrap_id q00 p1 p2, wrap_id q10 p3 (by omega), wrap_id (q10 + q00 / 4294967296) (by omega) p4, and_mask (q10 + q00 / 4294967296) (by omega) p4,
    wrap_id q01 p5 (by omega), wrap_id q11 p7 (by omega), wrap_id _ (by omega) p6, wrap_id (q11 + (q10 + q00 / 4294967296) / 4294967296) (by omega) (by omega), wrap_id _ (by omega) p8]

set_option maxHeartbeats 400000 in
theorem mulu_any (a b : Int) (w : World) (a1 : 0 ≤ a) (a2 : a < 18446744073709551616) (b1 : 0 ≤ b) (b2 : b < 18446744073709551616) :
    Calls Try.prog 26 #[.int .u64 a, .int .u64 b] w fun e w' => e = .returned (.agg #[.int .u64 (hi (a * b)), .int .u64 (lo (a * b))]) ∧ Below w.heap.size w w' := by
  go_enter Try.func26, Try.ntmps26
  go_wp2
  exact bodyPost_ret (v := .agg #[.int .u64 (mh a b), .int .u64 (IntKind.u64.wrap (a * b))]) (by simp [results, Try.results26, go_sem, mh]) rfl ⟨ret_agg (mh_eq a b a1 a2 b1 b2) (by rw [IntKind.wrap_u64]; rfl), (Below.refl _ _).alloc (Nat.le_refl _) _⟩

set_option maxHeartbeats 400000 in
theorem mulsu_any (q d : Int) (w : World) (q1 : -9223372036854775808 < q) (q2 : q < 9223372036854775808) (d1 : 0 ≤ d) (d2 : d < 18446744073709551616) :
    Calls Try.prog 18 #[.int .i64 q, .int .u64 d] w fun e w' => e = .returned (.agg #[.int .u64 (hi (q * d)), .int .u64 (lo (q * d))]) ∧ Below w.heap.size w w' := by
  by_cases h : q < 0
  · have e1 : IntKind.u64.wrap (-IntKind.u64.wrap q) = -q := by rw [IntKind.wrap_u64, IntKind.wrap_u64]; omega
    have E2 : Hid (-(-q * d) = q * d) := by unfold Hid; rw [Int.neg_mul, Int.neg_neg]
    go_enter Try.func18, Try.ntmps18
    go_wp2_with fail
    refine (mulu_any (-q) d _ (by omega) (by omega) d1 d2).mono ?_
    rintro e w1 ⟨rfl, hb⟩
    obtain ⟨hc, hf⟩ := bcell hb
    have hz : w.heap.size < w1.heap.size := by have := hb.size; simp at this; omega
    generalize hzz : -q * d = z at *
    clear hzz
    have hb0 : Below w.heap.size w w1 := ((Below.refl _ _).alloc (Nat.le_refl _) _).trans (hb.mono (by simp))
    clear hb
    go_wp2_with fail
    refine (neg_any z _).mono ?_
    rintro e w2 ⟨rfl, hb2⟩
    obtain ⟨hc2, hf2⟩ := bcell hb2
    have hz2 : w1.heap.size < w2.heap.size := by have := hb2.size; simp at this; omega
    have hb3 : Below w.heap.size w w2 := (hb0.alloc (by omega) _).trans (hb2.mono (by simp; omega))
    clear hb2 hb0
    rw [E2.out]
    go_wp2
    have hne : ¬ w1.heap.size = w.heap.size := by omega
    have g : ∀ o, (((w2.setCell ⟨w1.heap.size, 0, none⟩ (Value.int .u64 (hi (q * d)))).setCell ⟨w1.heap.size, 1, none⟩ (Value.int .u64 (lo (q * d))))).cell? ⟨w.heap.size, o, none⟩ = (w.alloc (Obj.cells #[Value.int .u64 0, Value.int .u64 0] 31)).cell? ⟨w.heap.size, o, none⟩ := by
      intro o
      rw [far_cell hne, far_cell hne, hc2 _ _ (by simp; omega), World.cell?_alloc_past _ _ _ (by omega), hc _ _ (by simp)]
    have t2 := two_cells (x := Value.int .u64 (hi (q * d))) (y := Value.int .u64 (lo (q * d))) ((g 0).trans (by simp [go_sem]; rfl)) ((g 1).trans (by simp [go_sem]; rfl))
    exact bodyPost_ret (v := .agg #[.int .u64 (hi (q * d)), .int .u64 (lo (q * d))]) (by simp [results, Try.results18, go_sem, t2.1, t2.2]) rfl ⟨rfl, (((hb3.setCell (by simp; omega) _).setCell (by simp; omega) _).setCell (Nat.le_refl _) _).setCell (Nat.le_refl _) _⟩
  · go_enter Try.func18, Try.ntmps18
    go_wp2_with fail
    refine (mulu_any q d _ (by omega) (by omega) d1 d2).mono ?_
    rintro e w1 ⟨rfl, hb⟩
    obtain ⟨hc, hf⟩ := bcell hb
    have hz : w.heap.size < w1.heap.size := by have := hb.size; simp at this; omega
    have hb0 : Below w.heap.size w w1 := ((Below.refl _ _).alloc (Nat.le_refl _) _).trans (hb.mono (by simp))
    clear hb
    go_wp2
    exact bodyPost_ret (v := .agg #[.int .u64 (hi (q * d)), .int .u64 (lo (q * d))]) (by simp [results, Try.results18, go_sem, hc, hz]) rfl ⟨rfl, ((hb0.setCell (Nat.le_refl _) _).setCell (Nat.le_refl _) _).alloc (by simp; omega) _⟩

set_option maxHeartbeats 800000 in
theorem sub_any (a b : Int) (w : World) :
    Calls Try.prog 22 #[.agg #[.int .u64 (hi a), .int .u64 (lo a)], .agg #[.int .u64 (hi b), .int .u64 (lo b)]] w fun e w' => e = .returned (.agg #[.int .u64 (hi (a - b)), .int .u64 (lo (a - b))]) ∧ Below w.heap.size w w' := by
  go_enter Try.func22, Try.ntmps22
  go_wp2
  go_region_with (first | (go_at_call 23; refine (neg_any b _).mono ?_; rintro e w1 ⟨rfl, hb1⟩; obtain ⟨hc1, hf1⟩ := bcell hb1; have hz1 : w.heap.size + 1 + 1 < w1.heap.size := by (have := hb1.size; simp at this; omega)) | (go_at_call 21; refine (add_any a (-b) _).mono ?_; rintro e w2 ⟨rfl, hb2⟩; obtain ⟨hc2, hf2⟩ := bcell hb2; have hz2 := hb2.size))
  all_goals
    have hb : Below w.heap.size w w2 := (((((Below.refl w.heap.size w).alloc (Nat.le_refl _) _).alloc (by simp) _).alloc (by simp; omega) _).drew.trans (hb1.mono (by simp; omega))).trans (hb2.mono (by omega))
    have t2 := two_cells (x := Value.int .u64 (hi (a + -b))) (y := Value.int .u64 (lo (a + -b))) ((hc2 (w.heap.size + 1 + 1) 0 (by omega)).trans ((hc1 _ _ (by simp)).trans (by simp [go_sem]; rfl))) ((hc2 (w.heap.size + 1 + 1) 1 (by omega)).trans ((hc1 _ _ (by simp)).trans (by simp [go_sem]; rfl)))
    go_wp2
    exact bodyPost_ret (v := .agg #[.int .u64 (hi (a + -b)), .int .u64 (lo (a + -b))]) (by simp [results, Try.results22, go_sem, t2.1, t2.2]) rfl ⟨by rw [Int.sub_eq_add_neg], (hb.setCell (by simp; omega) _).setCell (by simp; omega) _⟩
end Go.Proofs.Qxb6619613a
