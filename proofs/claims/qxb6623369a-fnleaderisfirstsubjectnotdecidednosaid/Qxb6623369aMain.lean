/- FnLeaderIsFirstSubjectNotDecidedNo: the walk. -/
import Derived.Test.Qxb6623369aLead
namespace Go.Proofs.Qxb6623369a
open Go.RowKit
set_option linter.unusedVariables false

theorem bytes_any (f : Int) (a1 a2 : Option Addr) (n c1 m c2 : Nat) (w : World) (hn : n ≤ maxLen) (hm : m ≤ maxLen) :
    Calls Try.prog 4 #[.int .i64 f, .slice a1 n c1, .slice a2 m c2] w fun e w' => e = .returned (.bool (decide ((n : Int) + (m : Int) ≤ 1048576))) ∧ w = w' := by
  unfold maxLen at hn hm
  by_cases h1 : 1048576 < (n : Int)
  · go_enter Try.func4, Try.ntmps4
    go_wp2
    go_ret
    exact ⟨ret_bool (decide_eq_false (by omega)).symm, rfl⟩
  · by_cases h2 : 1048576 < (m : Int)
    · go_enter Try.func4, Try.ntmps4
      go_wp2
      go_ret
      exact ⟨ret_bool (decide_eq_false (by omega)).symm, rfl⟩
    · by_cases h3 : 1048576 < (n : Int) + (m : Int)
      · go_enter Try.func4, Try.ntmps4
        go_wp2
        go_ret
        exact ⟨ret_bool (decide_eq_false (by omega)).symm, rfl⟩
      · go_enter Try.func4, Try.ntmps4
        go_wp2
        go_ret
        exact ⟨rfl, rfl⟩

/-- the scan from the end down to place q: -1, or the least place not decided no -/
def Scan (q n : Nat) (D : Nat → Int) (kk : Int) : Prop :=
  (kk = -1 ∧ ∀ j, q ≤ j → j < n → D j = -1) ∨ ∃ p : Nat, q ≤ p ∧ p < n ∧ kk = p ∧ D p ≠ -1 ∧ ∀ j, q ≤ j → j < p → D j = -1
theorem scan_no {q n : Nat} {D : Nat → Int} {kk : Int} (h : Scan (q + 1) n D kk) (hd : D q = -1) : Scan q n D kk := by
  rcases h with ⟨rfl, h⟩ | ⟨p, h1, h2, rfl, h3, h4⟩
  · refine .inl ⟨rfl, fun j a b => ?_⟩
    by_cases e : j = q
    · subst e; exact hd
    · exact h j (by omega) b
  · refine .inr ⟨p, by omega, h2, rfl, h3, fun j a b => ?_⟩
    by_cases e : j = q
    · subst e; exact hd
    · exact h4 j (by omega) b
theorem scan_yes {q n : Nat} {D : Nat → Int} (hq : q < n) (hd : D q ≠ -1) : Scan q n D (q : Int) :=
  .inr ⟨q, Nat.le_refl _, hq, rfl, hd, fun j a b => by omega⟩
/-- where the scan ends at q and leader began at f, both speak of the same place -/
theorem scan_none {f q n : Nat} {D : Nat → Int} {rr : Int} {kk : Nat} (hL : Lead f n D rr kk) (hq : q ≤ f ) (hs : ∀ j, q ≤ j → j < n → D j = -1) : rr = -1 ∧ kk = (if f < n then n else f) := by
  rcases hL with ⟨k, h1, h2, h3, h4, _⟩ | ⟨_, h1, h2⟩
  · exact absurd (hs k (by omega) h2) h4
  · exact ⟨h1, h2⟩
theorem scan_some {f p n : Nat} {D : Nat → Int} {rr : Int} {kk : Nat} (hL : Lead f n D rr kk) (hp : f ≤ p) (hpn : p < n) (hd : D p ≠ -1) (hs : ∀ j, f ≤ j → j < p → D j = -1) : kk = p ∧ rr = (if D p = -3 then -1 else D p) := by
  rcases hL with ⟨k, h1, h2, h3, h4, rfl, h5⟩ | ⟨h1, _⟩
  · rcases Nat.lt_trichotomy kk p with h | h | h
    · exact absurd (hs kk h1 h) h4
    · subst h; exact ⟨rfl, h5⟩
    · exact absurd (h3 p hp h) hd
  · exact absurd (h1 p hp hpn) hd

set_option maxHeartbeats 400000 in
theorem long (f : Int) (a1 a2 : Option Addr) (n c1 m c2 : Nat) (w : World) (hn : n ≤ maxLen) (hm : m ≤ maxLen) (h : 1048576 < (n : Int) + (m : Int)) :
    Calls Try.prog 3 #[.int .i64 f, .slice a1 n c1, .slice a2 m c2] w fun e w' => e = .returned (.bool true) ∧ Below w.heap.size w w' := by
  have hd : decide ((n : Int) + (m : Int) ≤ 1048576) = false := decide_eq_false (by omega)
  go_enter Try.func3, Try.ntmps3
  go_wp2_with (go_at_call 4; refine (bytes_any f a1 a2 n c1 m c2 _ hn hm).mono ?_; rintro e w' ⟨rfl, rfl⟩)
  go_ret
  exact ⟨rfl, Below.refl _ _⟩

set_option maxHeartbeats 400000 in
theorem negative (f : Int) (a1 a2 : Option Addr) (n c1 m c2 : Nat) (w : World) (hn : n ≤ maxLen) (hm : m ≤ maxLen) (h : (n : Int) + (m : Int) ≤ 1048576) (hf : f < 0) :
    Calls Try.prog 3 #[.int .i64 f, .slice a1 n c1, .slice a2 m c2] w fun e w' => e = .returned (.bool true) ∧ Below w.heap.size w w' := by
  have hd : decide ((n : Int) + (m : Int) ≤ 1048576) = true := decide_eq_true (by omega)
  have h1 : ¬ 1048576 < (n : Int) := by omega
  have h2 : ¬ 1048576 < (m : Int) := by omega
  go_enter Try.func3, Try.ntmps3
  go_wp2_with (go_at_call 4; refine (bytes_any f a1 a2 n c1 m c2 _ hn hm).mono ?_; rintro e w' ⟨rfl, rfl⟩)
  go_ret
  exact ⟨rfl, Below.refl _ _⟩

set_option maxRecDepth 100000 in
set_option maxHeartbeats 3200000 in
theorem main (f : Nat) (a1 a2 : Option Addr) (b1 o1 b2 o2 n c1 m c2 : Nat) (r dv : Nat → Int) (w : World) (hn : n ≤ maxLen) (hm : m ≤ maxLen) (hnm : (n : Int) + (m : Int) ≤ 1048576)
    (I1 : Ints w a1 b1 o1 n r) (I2 : Ints w a2 b2 o2 m dv) (z1 : a1 = none → n = 0 ∧ c1 = 0) (z2 : a2 = none → m = 0 ∧ c2 = 0) :
    Calls Try.prog 3 #[.int .i64 f, .slice a1 n c1, .slice a2 m c2] w fun e w' => e = .returned (.bool true) ∧ Below w.heap.size w w' := by
  have hd : decide ((n : Int) + (m : Int) ≤ 1048576) = true := decide_eq_true (by omega)
  have h1 : ¬ 1048576 < (n : Int) := by omega
  have h2 : ¬ 1048576 < (m : Int) := by omega
  have hn1 : n ≤ 1048576 := by omega
  have hm1 : m ≤ 1048576 := by omega
  have H1 := hideI I1
  have H2 := hideI I2
  have Z1 := hideI z1
  have Z2 := hideI z2
  clear I1 I2 z1 z2
  go_enter Try.func3, Try.ntmps3
  go_wp2_with (go_at_call 4; refine (bytes_any f a1 a2 n c1 m c2 _ hn hm).mono ?_; rintro e w' ⟨rfl, rfl⟩)
  go_loop [7] (fun kk => ∃ k : Nat, f ≤ k ∧ (k ≤ n ∨ k = f) ∧ kk = .int .i64 k ∧ Hid (∀ j, f ≤ j → j < k → 0 ≤ r j ∧ r j < m)) (fun kk => n - (intOf kk).toNat)
  case atStart => exact ⟨f, Nat.le_refl _, .inr rfl, rfl, fun j a b => by omega⟩
  case round =>
    obtain ⟨k, hfk, hkn, rfl, HJ⟩ := hrel
    have HK := hideI hkn
    clear hkn
    by_cases hlt : (k : Int) < (n : Int)
    · obtain ⟨rfl, hbw⟩ := H1.out.1 (by omega)
      have p1 := H1.out.2 k (by omega)
      by_cases hr0 : r k < 0
      · go_wp2
        go_ret
        exact ⟨rfl, Below.refl _ _⟩
      · by_cases hr1 : (m : Int) ≤ r k
        · go_wp2
          go_ret
          exact ⟨rfl, Below.refl _ _⟩
        · have J : Hid (∀ j, f ≤ j → j < k + 1 → 0 ≤ r j ∧ r j < m) := fun j a b => by
            by_cases e : j = k
            · subst e; omega
            · exact HJ.out j a (by omega)
          clear HJ
          go_wp2
          go_round
          case rel => exact ⟨k + 1, by omega, .inl (by omega), by go_num, J⟩
          case measure => simp [intOf]; omega
    · have HR : Hid (∀ j, f ≤ j → j < n → 0 ≤ r j ∧ r j < m) := fun j a b => HJ.out j a (by omega)
      clear HJ HK
      go_wp2_with fail
      refine (copy_any a1 b1 o1 n c1 r _ H1.out Z1.out hn1).mono ?_
      rintro e w1 ⟨⟨a3, c3, rfl, I3⟩, hb1⟩
      replace H1 := hideI (H1.out.below hb1)
      replace H2 := hideI (H2.out.below hb1)
      have H3 := hideI I3
      have hB : Below w.heap.size w w1 := hb1
      clear I3 hb1
      go_wp2_with fail
      refine (copy_any a2 b2 o2 m c2 dv _ H2.out Z2.out hm1).mono ?_
      rintro e w2 ⟨⟨a4, c4, rfl, I4⟩, hb2⟩
      replace H1 := hideI (H1.out.below hb2)
      replace H2 := hideI (H2.out.below hb2)
      replace H3 := hideI (H3.out.below hb2)
      have H4 := hideI I4
      replace hB := hB.trans (hb2.mono hB.size)
      clear I4 hb2
      go_wp2_with fail
      refine (zzLeader_any f n m c3 c4 a3 a4 _ _ _ _ r dv _ hn1 hm1 H3.out H4.out HR.out).mono ?_
      rintro e w3 ⟨r1, f1, rfl, L1, hb3⟩
      replace H1 := hideI (H1.out.below hb3)
      replace H2 := hideI (H2.out.below hb3)
      replace H3 := hideI (H3.out.below hb3)
      replace H4 := hideI (H4.out.below hb3)
      replace hB := hB.trans (hb3.mono hB.size)
      have HL := hideI L1
      clear L1 hb3
      have hff : f ≤ f1 := by
        rcases HL.out with ⟨k, h1, _, _, _, rfl, _⟩ | ⟨_, _, h⟩
        · exact h1
        · rw [h]; split <;> omega
      go_wp2_with fail
      refine (zzLeader_any f1 n m c3 c4 a3 a4 _ _ _ _ r dv _ hn1 hm1 H3.out H4.out (fun j a b => HR.out j (by omega) b)).mono ?_
      rintro e w4 ⟨r2, f2, rfl, L2, hb4⟩
      obtain ⟨rfl, rfl⟩ := lead_again HL.out L2
      replace H1 := hideI (H1.out.below hb4)
      replace H2 := hideI (H2.out.below hb4)
      replace H3 := hideI (H3.out.below hb4)
      replace H4 := hideI (H4.out.below hb4)
      replace hB := hB.trans (hb4.mono hB.size)
      clear L2 hb4
      go_wp2_with fail
      go_loop [14, 15] (fun vk vi => ∃ (q : Nat) (kk : Int), q ≤ n ∧ (f ≤ q ∨ q = n) ∧ vi = .int .i64 ((q : Int) - 1) ∧ vk = .int .i64 kk ∧ Hid (Scan q n (fun j => dv (r j).toNat) kk)) (fun _ vi => (intOf vi + 1).toNat)
      case atStart =>
        have hs0 : Hid (Scan n n (fun j => dv (r j).toNat) (-1)) := .inl ⟨rfl, fun j a b => by omega⟩
        exact ⟨n, -1, Nat.le_refl _, .inr rfl, rfl, rfl, hs0⟩
      case round =>
        obtain ⟨q, kk, hqn, hfq, rfl, rfl, HS⟩ := hrel
        have HQ := hideI hfq
        clear hfq
        by_cases hq : (f : Int) ≤ (q : Int) - 1
        · obtain ⟨p, rfl⟩ : ∃ p, q = p + 1 := ⟨q - 1, by omega⟩
          have ep : ((p + 1 : Nat) : Int) - 1 = (p : Int) := by omega
          rw [ep] at hq ⊢
          clear ep
          have hpn : (p : Int) < (n : Int) := by omega
          obtain ⟨rfl, hbw⟩ := H1.out.1 (by omega)
          obtain ⟨ra, rb⟩ := HR.out p (by omega) (by omega)
          obtain ⟨t, ht⟩ := Int.eq_ofNat_of_zero_le ra
          obtain ⟨rfl, hbw2⟩ := H2.out.1 (by omega)
          have htm : (t : Int) < (m : Int) := by omega
          have p1 : w4.cell? ⟨b1, o1 + p, none⟩ = some (.int .i64 (t : Int)) := by rw [← ht]; exact H1.out.2 p (by omega)
          have p2 : w4.cell? ⟨b2, o2 + t, none⟩ = some (.int .i64 (dv t)) := H2.out.2 t (by omega)
          have HT : Hid ((r p).toNat = t) := by unfold Hid; omega
          clear ht ra rb hbw hbw2
          by_cases hv : dv t = -1
          · have hv0 : (dv t != -1) = false := by simpa using hv
            have S := hideI (scan_no HS.out (show dv (r p).toNat = -1 by rw [HT.out]; exact hv))
            clear hv HS HT
            go_wp2
            go_round
            case rel => exact ⟨p, kk, by omega, .inl (by omega), rfl, rfl, S⟩
            case measure => simp [intOf]
          · have hv0 : (dv t != -1) = true := by simpa using hv
            have S := hideI (scan_yes (D := fun j => dv (r j).toNat) (show p < n by omega) (show dv (r p).toNat ≠ -1 by rw [HT.out]; exact hv))
            clear hv HS HT
            go_wp2
            go_round
            case rel => exact ⟨p, p, by omega, .inl (by omega), rfl, rfl, S⟩
            case measure => simp [intOf]
        · rcases HS.out with ⟨rfl, hs⟩ | ⟨p, hp1, hp2, rfl, hp3, hp4⟩
          · obtain ⟨rfl, hk2⟩ := scan_none HL.out (by omega) hs
            clear HS hs HL
            by_cases hfn : (f : Int) < (n : Int)
            · rw [if_pos (by omega)] at hk2
              replace hk2 := hk2.symm
              subst hk2
              go_wp2_with fail
              refine (same_any a3 _ _ _ _ _ n c3 c1 r _ H3.out H1.out hn1).mono ?_
              rintro e w5 ⟨rfl, hb5⟩
              replace H2 := hideI (H2.out.below hb5)
              replace H4 := hideI (H4.out.below hb5)
              replace hB := hB.trans (hb5.mono hB.size)
              clear hb5
              go_wp2_with fail
              refine (same_any a4 _ _ _ _ _ m c4 c2 dv _ H4.out H2.out hm1).mono ?_
              rintro e w6 ⟨rfl, hb6⟩
              replace hB := hB.trans (hb6.mono hB.size)
              clear hb6
              go_wp2
              go_ret
              exact ⟨rfl, hB⟩
            · rw [if_neg (by omega)] at hk2
              replace hk2 := hk2.symm
              subst hk2
              go_wp2_with fail
              refine (same_any a3 _ _ _ _ _ n c3 c1 r _ H3.out H1.out hn1).mono ?_
              rintro e w5 ⟨rfl, hb5⟩
              replace H2 := hideI (H2.out.below hb5)
              replace H4 := hideI (H4.out.below hb5)
              replace hB := hB.trans (hb5.mono hB.size)
              clear hb5
              go_wp2_with fail
              refine (same_any a4 _ _ _ _ _ m c4 c2 dv _ H4.out H2.out hm1).mono ?_
              rintro e w6 ⟨rfl, hb6⟩
              replace hB := hB.trans (hb6.mono hB.size)
              clear hb6
              go_wp2
              go_ret
              exact ⟨rfl, hB⟩
          · have hfp : f ≤ p := by have := HQ.out; omega
            obtain ⟨rfl, hr2⟩ := scan_some HL.out hfp hp2 hp3 (fun j a b => hp4 j (by have := HQ.out; omega) b)
            obtain ⟨rfl, hbw⟩ := H1.out.1 (by omega)
            obtain ⟨ra, rb⟩ := HR.out f2 hfp hp2
            obtain ⟨t, ht⟩ := Int.eq_ofNat_of_zero_le ra
            obtain ⟨rfl, hbw2⟩ := H2.out.1 (by omega)
            have htm : (t : Int) < (m : Int) := by omega
            have hpn : (f2 : Int) < (n : Int) := by omega
            have p1 : w4.cell? ⟨b1, o1 + f2, none⟩ = some (.int .i64 (t : Int)) := by rw [← ht]; exact H1.out.2 f2 (by omega)
            have p2 : w4.cell? ⟨b2, o2 + t, none⟩ = some (.int .i64 (dv t)) := H2.out.2 t (by omega)
            have e2 : (r f2).toNat = t := by omega
            rw [e2] at hr2
            clear ht ra rb hbw hbw2 e2 hp3 hp4 HS HL
            by_cases hu : dv t = -3
            · have hu0 : (dv t != -3) = false := by simpa using hu
              rw [if_pos hu] at hr2
              subst hr2
              clear hu
              go_wp2_with fail
              refine (same_any a3 _ _ _ _ _ n c3 c1 r _ H3.out H1.out hn1).mono ?_
              rintro e w5 ⟨rfl, hb5⟩
              replace H2 := hideI (H2.out.below hb5)
              replace H4 := hideI (H4.out.below hb5)
              replace hB := hB.trans (hb5.mono hB.size)
              clear hb5
              go_wp2_with fail
              refine (same_any a4 _ _ _ _ _ m c4 c2 dv _ H4.out H2.out hm1).mono ?_
              rintro e w6 ⟨rfl, hb6⟩
              replace hB := hB.trans (hb6.mono hB.size)
              clear hb6
              go_wp2
              go_ret
              exact ⟨rfl, hB⟩
            · have hu0 : (dv t != -3) = true := by simpa using hu
              rw [if_neg hu] at hr2
              subst hr2
              clear hu
              go_wp2_with fail
              refine (same_any a3 _ _ _ _ _ n c3 c1 r _ H3.out H1.out hn1).mono ?_
              rintro e w5 ⟨rfl, hb5⟩
              replace H2 := hideI (H2.out.below hb5)
              replace H4 := hideI (H4.out.below hb5)
              replace hB := hB.trans (hb5.mono hB.size)
              clear hb5
              go_wp2_with fail
              refine (same_any a4 _ _ _ _ _ m c4 c2 dv _ H4.out H2.out hm1).mono ?_
              rintro e w6 ⟨rfl, hb6⟩
              replace hB := hB.trans (hb6.mono hB.size)
              clear hb6
              go_wp2
              go_ret
              exact ⟨rfl, hB⟩
end Go.Proofs.Qxb6623369a
