/- FnCodeIsLastFailedBySecondThenSpec: the walk where the slice is not nil. -/
import Derived.Test.Qxb6623269aCells
import Derived.Deep.RegionHeld3
namespace Go.Proofs.Qxb6623269a
open Go.RowKit
set_option linter.unusedVariables false

/-- the round's facts on the built row (block g, n elements of seven cells): the first k are laid; every cell is there, none frozen -/
def Built (wr : World) (g n k : Nat) (ex sc nn : Nat → Int) : Prop :=
  (∀ j, j < k → Elt wr g j (ex j) (nn j % 1000000000) (sc j)) ∧ (∀ o, o < n * 7 → ∃ v, wr.cell? ⟨g, o, none⟩ = some v) ∧ (∀ o, wr.frozen? ⟨g, o, none⟩ = false) ∧ g < wr.heap.size

theorem elt_other {W : World} {g j o : Nat} {e wl s e' wl' s' : Int} (h : Elt W g j e wl s) (ho : j * 7 + 7 ≤ o) : Elt (set7 W g o e' wl' s') g j e wl s := by
  obtain ⟨a0, a1, a2, a3, a4, a5, a6⟩ := h
  refine ⟨?_, ?_, ?_, ?_, ?_, ?_, ?_⟩
  all_goals (rw [set7_other _ _ _ _ _ _ _ _ (by omega)]; assumption)
theorem elt_below {W w' : World} {g j : Nat} {e wl s : Int} (h : Elt W g j e wl s) (hb : Below W.heap.size W w') (hg : g < W.heap.size) : Elt w' g j e wl s := by
  obtain ⟨a0, a1, a2, a3, a4, a5, a6⟩ := h
  exact ⟨(hb.cell (p := ⟨g, _, none⟩) hg).trans a0, (hb.cell (p := ⟨g, _, none⟩) hg).trans a1, (hb.cell (p := ⟨g, _, none⟩) hg).trans a2, (hb.cell (p := ⟨g, _, none⟩) hg).trans a3, (hb.cell (p := ⟨g, _, none⟩) hg).trans a4, (hb.cell (p := ⟨g, _, none⟩) hg).trans a5, (hb.cell (p := ⟨g, _, none⟩) hg).trans a6⟩
theorem Built.below {W w' : World} {g n k : Nat} {ex sc nn : Nat → Int} (h : Built W g n k ex sc nn) (hb : Below W.heap.size W w') : Built w' g n k ex sc nn := by
  obtain ⟨h1, h2, h3, h4⟩ := h
  refine ⟨fun j hj => elt_below (h1 j hj) hb h4, fun o ho => ?_, fun o => (hb.frozen (p := ⟨g, o, none⟩) h4).trans (h3 o), Nat.lt_of_lt_of_le h4 hb.size⟩
  obtain ⟨v, hv⟩ := h2 o ho
  exact ⟨v, (hb.cell (p := ⟨g, o, none⟩) h4).trans hv⟩
theorem Built.step {W : World} {g n k : Nat} {ex sc nn : Nat → Int} (h : Built W g n k ex sc nn) (hk : k < n) : Built (set7 W g (k * 7) (ex k) (nn k % 1000000000) (sc k)) g n (k + 1) ex sc nn := by
  obtain ⟨h1, h2, h3, h4⟩ := h
  have h7 : ∀ f, f < 7 → ∃ v, W.cell? ⟨g, k * 7 + f, none⟩ = some v := fun f hf => h2 _ (by omega)
  refine ⟨fun j hj => ?_, fun o ho => set7_some _ _ _ _ _ _ _ h7 (h2 o ho), fun o => by rw [set7_frozen]; exact h3 o, by rw [set7_size]; exact h4⟩
  by_cases e : j = k
  · subst e; exact set7_elt _ _ _ _ _ _ h7
  · exact elt_other (h1 j (by omega)) (by omega)

theorem farS {X : World} {g h o p : Nat} {x0 x1 x2 x3 x4 x5 x6 : Value} (hne : ¬ g = h) : (((((((X.setCell ⟨g, o, none⟩ x0).setCell ⟨g, o + 1, none⟩ x1).setCell ⟨g, o + 2, none⟩ x2).setCell ⟨g, o + 3, none⟩ x3).setCell ⟨g, o + 4, none⟩ x4).setCell ⟨g, o + 5, none⟩ x5).setCell ⟨g, o + 6, none⟩ x6).cell? ⟨h, p, none⟩ = X.cell? ⟨h, p, none⟩ := by
  rw [far _ _ _ _ _ _ (by omega), far _ _ _ _ _ _ (by omega), far _ _ _ _ _ _ (by omega), far _ _ _ _ _ _ (by omega), far _ _ _ _ _ _ (by omega), far _ _ _ _ _ _ (by omega), far _ _ _ _ _ _ (by omega)]
theorem Built.seven {W : World} {g n k : Nat} {ex sc nn : Nat → Int} (h : Built W g n k ex sc nn) (hk : k < n) :
    ∃ v0 v1 v2 v3 v4 v5 v6, W.cell? ⟨g, k * 7, none⟩ = some v0 ∧ W.cell? ⟨g, k * 7 + 1, none⟩ = some v1 ∧ W.cell? ⟨g, k * 7 + 2, none⟩ = some v2 ∧ W.cell? ⟨g, k * 7 + 3, none⟩ = some v3 ∧ W.cell? ⟨g, k * 7 + 4, none⟩ = some v4 ∧ W.cell? ⟨g, k * 7 + 5, none⟩ = some v5 ∧ W.cell? ⟨g, k * 7 + 6, none⟩ = some v6 := by
  obtain ⟨v0, a0⟩ := h.2.1 (k * 7) (by omega)
  obtain ⟨v1, a1⟩ := h.2.1 (k * 7 + 1) (by omega)
  obtain ⟨v2, a2⟩ := h.2.1 (k * 7 + 2) (by omega)
  obtain ⟨v3, a3⟩ := h.2.1 (k * 7 + 3) (by omega)
  obtain ⟨v4, a4⟩ := h.2.1 (k * 7 + 4) (by omega)
  obtain ⟨v5, a5⟩ := h.2.1 (k * 7 + 5) (by omega)
  obtain ⟨v6, a6⟩ := h.2.1 (k * 7 + 6) (by omega)
  exact ⟨v0, v1, v2, v3, v4, v5, v6, a0, a1, a2, a3, a4, a5, a6⟩

set_option maxRecDepth 100000 in
set_option maxHeartbeats 1600000 in
theorem big (a : Addr) (b off n c : Nat) (ex sc nn : Nat → Int) (w : World) (hn : n ≤ 65536) (ha : 0 < n → a = ⟨b, off, none⟩ ∧ b < w.heap.size)
    (hE : ∀ j, j < n → w.cell? ⟨b, off + j * 3, none⟩ = some (.int .i32 (ex j)) ∧ w.cell? ⟨b, off + j * 3 + 1, none⟩ = some (.int .u32 (sc j)) ∧ w.cell? ⟨b, off + j * 3 + 2, none⟩ = some (.int .u32 (nn j)))
    (hx : ∀ j, j < n → -2147483648 ≤ ex j ∧ ex j ≤ 2147483647) (hs : ∀ j, j < n → 0 ≤ sc j ∧ sc j < 4294967296) (hq : ∀ j, j < n → 0 ≤ nn j ∧ nn j < 4294967296) :
    Calls Try.prog 3 #[.slice (some a) n c] w fun e w' => e = .returned (.bool true) ∧ Below w.heap.size w w' := by
  have hmx : n ≤ maxLen := by unfold maxLen; omega
  have hd : decide ((n : Int) ≤ 1048576) = true := decide_eq_true (by omega)
  have hnil := fun (W : World) => run_neq_slice_nil_any (P := Try.prog) W 22 27 (some a) n c 0 0 Try.underlying22
  obtain ⟨i0, hi, hz0, hz1, hz2⟩ := info_parts info34
  have HA := hideC ha
  have HE := hideC hE
  have HX := hideC hx
  have HS := hideC hs
  have HQ := hideC hq
  clear ha hE hx hs hq
  go_enter Try.func3, Try.ntmps3
  go_wp2_with (first
    | (go_at_call 4; refine (bytes_any (some a) n c _ hmx).mono ?_; rintro e w' ⟨rfl, rfl⟩)
    | (at_make; refine wpList_make_full _ rfl _ _ 24 rfl w.heap.size 34 i0 _ 7 Try.underlying24 hi hz0 hz1 _ _ _ _ n rfl rfl rfl rfl ?b2 ?b3 (Nat.le_refl _) ?_))
  case b2 => rw [hz2]; omega
  case b3 => exact hmx
  intro w1 hown0 hgrow0
  have hb0 : Below w.heap.size w w1 := (Below.refl _ _).grown hgrow0 (Nat.le_refl _) (fun k h => by cases h)
  have hbuilt : Hid (Built w1 w.heap.size n 0 ex sc nn) := by
    refine ⟨fun j hj => absurd hj (Nat.not_lt_zero _), fun o ho => ?_, fun o => hown0.frozenAt o, (hown0.lt _ rfl).2⟩
    have hl := hown0.1
    rw [hown0.cellAt o ho]
    exact ⟨_, List.getElem?_eq_getElem (by omega)⟩
  clear hgrow0 hnil hown0
  go_wp2
  go_loopw [4] (fun kk wr => ∃ k : Nat, k ≤ n ∧ kk = .int .i64 k ∧ Hid (Built wr w.heap.size n k ex sc nn) ∧ Below w.heap.size w wr) (fun kk _ => n - (intOf kk).toNat)
  case atStart => exact ⟨0, Nat.zero_le _, rfl, hbuilt, hb0⟩
  case round =>
    clear hbuilt hb0 w1
    obtain ⟨k, hk, rfl, HB, hnx⟩ := hrel
    by_cases hlt : (k : Int) < (n : Int)
    · have hk' : k < n := by omega
      obtain ⟨rfl, hbw⟩ := HA.out (by omega)
      obtain ⟨c0, c1, c2⟩ := HE.out k hk'
      obtain ⟨s1, s2⟩ := HS.out k hk'
      obtain ⟨q1, q2⟩ := HQ.out k hk'
      have p0 := (hnx.cell (p := ⟨b, off + k * 3, none⟩) hbw).trans c0
      have p1 := (hnx.cell (p := ⟨b, off + k * 3 + 1, none⟩) hbw).trans c1
      have p2 := (hnx.cell (p := ⟨b, off + k * 3 + 2, none⟩) hbw).trans c2
      clear c0 c1 c2
      have hgb : ¬ w.heap.size = b := by omega
      have hbr : b < wr.heap.size := Nat.lt_of_lt_of_le hbw hnx.size
      go_wp2_with fail
      go_region_held3 (fun w' => w'.cell? ⟨b, off + k * 3, none⟩ = some (.int .i32 (ex k)) ∧ w'.cell? ⟨b, off + k * 3 + 1, none⟩ = some (.int .u32 (sc k)) ∧ w'.cell? ⟨b, off + k * 3 + 2, none⟩ = some (.int .u32 (nn k))) (first | (simp only [farS hgb]; exact ⟨p3, p4, p5⟩) | (simp only [World.cell?_drew]; exact ⟨p0, p1, p2⟩) | exact ⟨p3, p4, p5⟩)
        (first | (go_at_call 5; refine (finishedAt_any (sc k) (nn k) _ s1 s2 q1 q2).mono ?_; rintro e wF ⟨rfl, hbF⟩; have p3 := (hbF.cell (p := ⟨b, off + k * 3, none⟩) hbr).trans p0; have p4 := (hbF.cell (p := ⟨b, off + k * 3 + 1, none⟩) hbr).trans p1; have p5 := (hbF.cell (p := ⟨b, off + k * 3 + 2, none⟩) hbr).trans p2; have HF := hideC (Built.below HB.out ((Below.refl _ wr).drew.trans hbF)); obtain ⟨v0, v1, v2, v3, v4, v5, v6, t0, t1, t2, t3, t4, t5, t6⟩ := HF.out.seven hk'; have z := HF.out.2.2.1))
      have R := HF.out.step hk'
      have B : Below w.heap.size w (set7 wF w.heap.size (k * 7) (ex k) (nn k % 1000000000) (sc k)) := set7_below (hnx.drew.trans (hbF.mono hnx.size)) (Nat.le_refl _)
      unfold set7 at R B
      have RH := hideC R
      clear R HF HB t0 t1 t2 t3 t4 t5 t6 z p3 p4 p5 p0 p1 p2 hbF hnx
      go_wp2
      go_roundw
      case rel => exact ⟨k + 1, by omega, by go_num, RH, B⟩
      case measure => simp [intOf]; omega
    · obtain rfl : k = n := by omega
      go_wp2_with fail
      refine (code_some w.heap.size k k ex (fun j => nn j % 1000000000) sc _ (by omega) HB.out.2.2.2 HB.out.1 HX.out (fun j hj => by have := HQ.out j hj; omega) HS.out).mono ?_
      rintro e wC ⟨⟨cd, rfl, l, hL⟩, hbC⟩
      have HL := hideC hL
      have hB : Below w.heap.size w wC := hnx.trans (hbC.mono hnx.size)
      clear hL hbC hnx HB
      go_wp2_with fail
      refine (lastFailed_any (some a) b off k c ex sc _ (by omega) (fun h => by rw [(HA.out h).1]) (fun j hj => ?_)).mono ?_
      · have hbw := (HA.out (by omega)).2
        obtain ⟨c0, c1, _⟩ := HE.out j hj
        exact ⟨(hB.cell (p := ⟨b, off + j * 3, none⟩) hbw).trans c0, (hB.cell (p := ⟨b, off + j * 3 + 1, none⟩) hbw).trans c1⟩
      · rintro e wD ⟨⟨cd', rfl, l', hL'⟩, rfl⟩
        obtain rfl := HL.out.uniq hL'
        clear HL hL'
        go_wp2
        go_ret
        exact ⟨rfl, hB⟩

set_option maxHeartbeats 800000 in
theorem bigNil (w : World) : Calls Try.prog 3 #[.slice none 0 0] w fun e w' => e = .returned (.bool true) ∧ Below w.heap.size w w' := by
  have hd : decide (((0 : Nat) : Int) ≤ 1048576) = true := by decide
  have hnil := fun (W : World) => run_neq_slice_nil_any (P := Try.prog) W 22 27 none 0 0 0 0 Try.underlying22
  go_enter Try.func3, Try.ntmps3
  go_wp2_with (go_at_call 4; refine (bytes_any none 0 0 _ (Nat.zero_le _)).mono ?_; rintro e w' ⟨rfl, rfl⟩)
  clear hnil
  go_loopw [4] (fun kk wr => kk = .int .i64 0 ∧ wr = w) (fun _ _ => 0)
  case atStart => exact ⟨rfl, rfl⟩
  case round =>
    obtain ⟨rfl, rfl⟩ := hrel
    go_wp2_with fail
    refine (code_nil _).mono ?_
    rintro e wC ⟨rfl, rfl⟩
    go_wp2_with fail
    refine (lastFailed_any none 0 0 0 0 (fun _ => 0) (fun _ => 0) _ (by omega) (fun h => absurd h (Nat.lt_irrefl _)) (fun j hj => absurd hj (Nat.not_lt_zero _))).mono ?_
    rintro e wD ⟨⟨cd', rfl, l', hL'⟩, rfl⟩
    obtain rfl : cd' = 0 := by
      rcases hL' with ⟨_, h, _⟩ | ⟨m, hm, _⟩
      · exact h
      · exact absurd hm (Nat.not_lt_zero _)
    clear hL'
    go_wp2
    go_ret
    exact ⟨rfl, Below.refl _ _⟩

set_option maxHeartbeats 400000 in
theorem longer (a : Option Addr) (n c : Nat) (w : World) (hm : n ≤ maxLen) (hn : 65536 < (n : Int)) :
    Calls Try.prog 3 #[.slice a n c] w fun e w' => e = .returned (.bool true) ∧ Below w.heap.size w w' := by
  by_cases hb : 1048576 < (n : Int)
  · have hd : decide ((n : Int) ≤ 1048576) = false := decide_eq_false (by omega)
    go_enter Try.func3, Try.ntmps3
    go_wp2_with (go_at_call 4; refine (bytes_any a n c _ hm).mono ?_; rintro e w' ⟨rfl, rfl⟩)
    go_ret
    exact ⟨rfl, Below.refl _ _⟩
  · have hd : decide ((n : Int) ≤ 1048576) = true := decide_eq_true (by omega)
    go_enter Try.func3, Try.ntmps3
    go_wp2_with (go_at_call 4; refine (bytes_any a n c _ hm).mono ?_; rintro e w' ⟨rfl, rfl⟩)
    go_ret
    exact ⟨rfl, Below.refl _ _⟩
end Go.Proofs.Qxb6623269a
