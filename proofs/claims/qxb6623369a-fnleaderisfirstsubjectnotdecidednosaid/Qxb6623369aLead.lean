/- THE WALKS of (*election).leader and ZZElectionLeader. -/
import Derived.Test.Qxb6623369aInts
namespace Go.Proofs.Qxb6623369a
open Go.RowKit
set_option linter.unusedVariables false

/-- the number in cell 3 of block g -/
def atK (w : World) (g : Nat) : Nat := match w.cell? ⟨g, 3, none⟩ with | some (.int _ q) => q.toNat | _ => 0
theorem atK_of {w : World} {g : Nat} {k : IntKind} {q : Int} (h : w.cell? ⟨g, 3, none⟩ = some (.int k q)) : atK w g = q.toNat := by unfold atK; rw [h]

/-- what leader finds from place f on: the first subject not decided no, told by D -/
def Lead (f n : Nat) (D : Nat → Int) (rr : Int) (kk : Nat) : Prop :=
  (∃ k : Nat, f ≤ k ∧ k < n ∧ (∀ j, f ≤ j → j < k → D j = -1) ∧ D k ≠ -1 ∧ kk = k ∧ rr = (if D k = -3 then -1 else D k)) ∨
  ((∀ j, f ≤ j → j < n → D j = -1) ∧ rr = -1 ∧ kk = (if f < n then n else f))

/-- what the method leaves -/
def LeadE (e : Ending) (B : Nat) (w w' : World) (g f n : Nat) (D : Nat → Int) : Prop :=
  ∃ (rr : Int) (kk : Nat), e = .returned (.int .i64 rr) ∧ w'.cell? ⟨g, 3, none⟩ = some (.int .i64 kk) ∧ Lead f n D rr kk ∧ Below B w w'

theorem atK_set (W : World) (g : Nat) (x : Int) (v : Value) (h : W.cell? ⟨g, 3, none⟩ = some v) : atK (W.setCell ⟨g, 3, none⟩ (.int .i64 x)) g = x.toNat := atK_of (World.cell?_setCell_same _ _ _ h)
theorem lead_u {f n k q : Nat} {r dv : Nat → Int} (hfk : f ≤ k) (hkn : k < n) (hJ : ∀ j, f ≤ j → j < k → dv (r j).toNat = -1) (hq : (r k).toNat = q) (hu : dv q = -3) : Lead f n (fun j => dv (r j).toNat) (-1) k := by
  refine .inl ⟨k, hfk, hkn, hJ, ?_, rfl, ?_⟩
  · show dv (r k).toNat ≠ -1
    rw [hq, hu]; decide
  · show (-1 : Int) = if dv (r k).toNat = -3 then -1 else dv (r k).toNat
    rw [hq, hu]; rfl
theorem lead_v {f n k q : Nat} {r dv : Nat → Int} (hfk : f ≤ k) (hkn : k < n) (hJ : ∀ j, f ≤ j → j < k → dv (r j).toNat = -1) (hq : (r k).toNat = q) (hu : ¬ dv q = -3) (hv : ¬ dv q = -1) : Lead f n (fun j => dv (r j).toNat) (dv q) k := by
  refine .inl ⟨k, hfk, hkn, hJ, ?_, rfl, ?_⟩
  · show dv (r k).toNat ≠ -1
    rw [hq]; exact hv
  · show dv q = if dv (r k).toNat = -3 then -1 else dv (r k).toNat
    rw [hq, if_neg hu]

theorem bdrew {B : Nat} {a w : World} (h : Below B a w) (q : Nat) : Below B a (w.drewN q) := ⟨h.os, h.tape, h.output, h.size, h.block⟩

set_option maxHeartbeats 1600000 in
theorem leader_any (g B f n m c1 c2 : Nat) (a1 a2 : Option Addr) (b1 o1 b2 o2 : Nat) (r dv : Nat → Int) (w : World) (hn : n ≤ 1048576) (hm : m ≤ 1048576) (hBg : B ≤ g)
    (h1 : Ints w a1 b1 o1 n r) (h2 : Ints w a2 b2 o2 m dv) (hb1 : 0 < n → b1 < B) (hb2 : 0 < m → b2 < B) (hr : ∀ j, f ≤ j → j < n → 0 ≤ r j ∧ r j < m)
    (g1 : w.cell? ⟨g, 1, none⟩ = some (.slice a1 n c1)) (g3 : w.cell? ⟨g, 3, none⟩ = some (.int .i64 f)) (g4 : w.cell? ⟨g, 4, none⟩ = some (.slice a2 m c2)) (gf : w.frozen? ⟨g, 3, none⟩ = false) :
    Calls Try.prog 8 #[.pointer (some ⟨g, 0, none⟩)] w fun e w' => LeadE e B w w' g f n (fun j => dv (r j).toNat) := by
  have H1 := hideI h1
  have H2 := hideI h2
  have HR := hideI hr
  have HB1 := hideI hb1
  have HB2 := hideI hb2
  have G1 := hideI g1
  have G4 := hideI g4
  clear h1 h2 hr hb1 hb2 g1 g4
  go_enter Try.func8, Try.ntmps8
  go_wp2
  go_loopw [3] (fun _ wr => ∃ k : Nat, f ≤ k ∧ (k ≤ n ∨ k = f) ∧ wr.cell? ⟨g, 3, none⟩ = some (.int .i64 k) ∧ wr.cell? ⟨g, 1, none⟩ = some (.slice a1 n c1) ∧ wr.cell? ⟨g, 4, none⟩ = some (.slice a2 m c2) ∧ wr.frozen? ⟨g, 3, none⟩ = false ∧ Hid (∀ j, f ≤ j → j < k → dv (r j).toNat = -1) ∧ Below B w wr)
    (fun _ wr => n - atK wr g)
  case atStart => exact ⟨f, Nat.le_refl _, .inr rfl, g3, G1.out, G4.out, gf, fun j h1 h2 => by omega, Below.refl _ _⟩
  case round =>
    clear g3 gf
    obtain ⟨k, hfk, hkn, q3, q1, q4, qf, HJ, hnx⟩ := hrel
    have HK := hideI hkn
    clear hkn
    by_cases hlt : (k : Int) < (n : Int)
    · have hkn : k < n := by omega
      obtain ⟨rfl, _⟩ := H1.out.1 (by omega)
      have hbB := HB1.out (by omega)
      obtain ⟨hr1, hr2⟩ := HR.out k hfk hkn
      obtain ⟨q, hq⟩ := Int.eq_ofNat_of_zero_le hr1
      have hqm : q < m := by omega
      obtain ⟨rfl, _⟩ := H2.out.1 (by omega)
      have hbB2 := HB2.out (by omega)
      have p1 : wr.cell? ⟨b1, o1 + k, none⟩ = some (.int .i64 (q : Int)) := by rw [← hq]; exact (hnx.cell (p := ⟨b1, o1 + k, none⟩) hbB).trans (H1.out.2 k hkn)
      have p2 : wr.cell? ⟨b2, o2 + q, none⟩ = some (.int .i64 (dv q)) := (hnx.cell (p := ⟨b2, o2 + q, none⟩) hbB2).trans (H2.out.2 q hqm)
      have HQ : Hid ((r k).toNat = q) := by unfold Hid; omega
      have hqi : (q : Int) < (m : Int) := by omega
      clear hq hr1 hr2
      go_wp2_with fail
      go_quiet (fail)
      go_wp2_with fail
      go_quiet (fail)
      by_cases hu : dv q = -3
      · have hu0 : (dv q == -3) = true := by simpa using hu
        have HU := hideI hu
        clear hu
        go_wp2
        go_ret
        exact ⟨-1, k, rfl, q3, lead_u hfk hkn HJ.out HQ.out HU.out, bdrew hnx _⟩
      · have hu0 : (dv q == -3) = false := by simpa using hu
        by_cases hv : dv q = -1
        · have hv0 : (dv q != -1) = false := by simpa using hv
          have HV := hideI hv
          clear hv hu
          go_wp2
          go_roundw
          case rel =>
            refine ⟨k + 1, by omega, .inl (by omega), ?_, ?_, ?_, ?_, fun j h1 h2 => ?_, (bdrew hnx _).setCell hBg _⟩
            · rw [show ((k + 1 : Nat) : Int) = (k : Int) + 1 from by omega]; exact World.cell?_setCell_same _ _ _ (u := .int .i64 (k : Int)) q3
            · rw [World.cell?_setCell_other _ _ _ _ (by simp)]; exact q1
            · rw [World.cell?_setCell_other _ _ _ _ (by simp)]; exact q4
            · rw [World.frozen?_setCell]; exact qf
            · by_cases e : j = k
              · subst e; rw [HQ.out]; exact HV.out
              · exact HJ.out j h1 (by omega)
          case measure =>
            rw [atK_of q3, atK_set _ _ _ (.int .i64 (k : Int)) (by exact q3)]
            omega
        · have hv0 : (dv q != -1) = true := by simpa using hv
          have HV := hideI hv
          have HU := hideI hu
          clear hv hu
          go_wp2
          go_ret
          exact ⟨dv q, k, rfl, q3, lead_v hfk hkn HJ.out HQ.out HU.out HV.out, bdrew hnx _⟩
    · go_wp2_with fail
      go_quiet (fail)
      go_wp2
      go_ret
      refine ⟨-1, k, rfl, q3, .inr ⟨fun j h1 h2 => HJ.out j h1 (by omega), rfl, ?_⟩, bdrew hnx _⟩
      have := HK.out
      split <;> omega

/-- what ZZElectionLeader hands back -/
def LeadZ (e : Ending) (w w' : World) (f n : Nat) (D : Nat → Int) : Prop :=
  ∃ (rr : Int) (kk : Nat), e = .returned (.tuple #[.int .i64 rr, .int .i64 kk]) ∧ Lead f n D rr kk ∧ Below w.heap.size w w'

set_option maxHeartbeats 800000 in
theorem zzLeader_any (f n m c1 c2 : Nat) (a1 a2 : Option Addr) (b1 o1 b2 o2 : Nat) (r dv : Nat → Int) (w : World) (hn : n ≤ 1048576) (hm : m ≤ 1048576)
    (h1 : Ints w a1 b1 o1 n r) (h2 : Ints w a2 b2 o2 m dv) (hr : ∀ j, f ≤ j → j < n → 0 ≤ r j ∧ r j < m) :
    Calls Try.prog 6 #[.int .i64 f, .slice a1 n c1, .slice a2 m c2] w fun e w' => LeadZ e w w' f n (fun j => dv (r j).toNat) := by
  have H1 := hideI h1
  have H2 := hideI h2
  have HR := hideI hr
  clear h1 h2 hr
  go_enter Try.func6, Try.ntmps6
  go_wp2_with fail
  have hal := (Below.refl w.heap.size w).alloc (Nat.le_refl _) (Obj.cells #[Value.int .i64 0, Value.slice a1 n c1, Value.slice none 0 0, Value.int .i64 f, Value.slice a2 m c2, Value.slice none 0 0, Value.slice none 0 0, Value.slice none 0 0] 32)
  refine (leader_any w.heap.size w.heap.size f n m c1 c2 a1 a2 b1 o1 b2 o2 r dv _ hn hm (Nat.le_refl _) (H1.out.below hal) (H2.out.below hal) (fun h => (H1.out.1 h).2) (fun h => (H2.out.1 h).2) HR.out (World.cell?_alloc_at _ _ _ _ rfl) (World.cell?_alloc_at _ _ _ _ rfl) (World.cell?_alloc_at _ _ _ _ rfl) (by simp [go_sem])).mono ?_
  rintro e w1 ⟨rr, kk, rfl, hc, hL, hb⟩
  have HL := hideI hL
  have hB := hal.trans hb
  clear hL hb hal
  go_wp2_with fail
  go_quiet (fail)
  go_wp2
  go_ret2
  exact ⟨rr, kk, rfl, HL.out, bdrew hB _⟩

theorem lead_again {f n : Nat} {D : Nat → Int} {rr rr' : Int} {kk kk' : Nat} (h : Lead f n D rr kk) (h' : Lead kk n D rr' kk') : rr' = rr ∧ kk' = kk := by
  rcases h with ⟨k, hfk, hkn, hJ, hne, rfl, rfl⟩ | ⟨hJ, rfl, hk⟩
  · rcases h' with ⟨k', hfk', hkn', hJ', hne', rfl, rfl⟩ | ⟨hJ', _, _⟩
    · rcases Nat.lt_or_ge kk kk' with h | h
      · exact absurd (hJ' kk (Nat.le_refl _) h) hne
      · have : kk' = kk := by omega
        subst this; exact ⟨rfl, rfl⟩
    · exact absurd (hJ' kk (Nat.le_refl _) hkn) hne
  · have hge : n ≤ kk := by rw [hk]; split <;> omega
    rcases h' with ⟨k', hfk', hkn', _⟩ | ⟨_, rfl, hk'⟩
    · omega
    · exact ⟨rfl, by rw [hk', if_neg (by omega)]⟩
end Go.Proofs.Qxb6623369a
