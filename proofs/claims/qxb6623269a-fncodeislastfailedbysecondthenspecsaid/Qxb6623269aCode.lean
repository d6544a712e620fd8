/- THE WALK of podexit.Code over the built slice. -/
import Derived.Test.Qxb6623269aTime
import Derived.Deep.RegionHeld3
namespace Go.Proofs.Qxb6623269a
open Go.RowKit
set_option linter.unusedVariables false

/-- element j of the built slice (block g): its exit code, and its time of finish -/
def Elt (w : World) (g j : Nat) (e wl s : Int) : Prop :=
  w.cell? ⟨g, j * 7, none⟩ = some (.int .i32 e) ∧ w.cell? ⟨g, j * 7 + 1, none⟩ = some (.int .u64 0) ∧ w.cell? ⟨g, j * 7 + 2, none⟩ = some (.int .i64 0) ∧ w.cell? ⟨g, j * 7 + 3, none⟩ = some (.pointer none) ∧
  w.cell? ⟨g, j * 7 + 4, none⟩ = some (.int .u64 wl) ∧ w.cell? ⟨g, j * 7 + 5, none⟩ = some (.int .i64 s) ∧ w.cell? ⟨g, j * 7 + 6, none⟩ = some (.pointer none)

/-- of the first n, c is the code of the one that failed last (by the second, then by the place); 0 where none failed -/
def Last (n : Nat) (ex sc : Nat → Int) (c : Int) (l : Int) : Prop :=
  ((∀ j, j < n → ex j = 0) ∧ c = 0 ∧ l = 0) ∨
  ∃ m, m < n ∧ ex m ≠ 0 ∧ c = ex m ∧ l = sc m - 62135596800 ∧ (∀ j, j < n → ex j ≠ 0 → sc j ≤ sc m) ∧ (∀ j, m < j → j < n → ex j ≠ 0 → sc j < sc m)

theorem hideC {p : Prop} (h : p) : Hid p := h
theorem last_skip {k : Nat} {ex sc : Nat → Int} {cd l : Int} (h : Last k ex sc cd l) (h2 : ex k = 0 ∨ (cd ≠ 0 ∧ sc k - 62135596800 < l)) : Last (k + 1) ex sc cd l := by
  rcases h with ⟨h0, rfl, rfl⟩ | ⟨m, hm, hne, rfl, rfl, hle, hlt⟩
  · rcases h2 with h2 | ⟨h2, _⟩
    · refine .inl ⟨fun j hj => ?_, rfl, rfl⟩
      by_cases e : j = k
      · subst e; exact h2
      · exact h0 j (by omega)
    · exact absurd rfl h2
  · refine .inr ⟨m, by omega, hne, rfl, rfl, fun j hj hj2 => ?_, fun j hj hj2 hj3 => ?_⟩
    · by_cases e : j = k
      · subst e; rcases h2 with h2 | ⟨_, h2⟩
        · exact absurd h2 hj2
        · omega
      · exact hle j (by omega) hj2
    · by_cases e : j = k
      · subst e; rcases h2 with h2 | ⟨_, h2⟩
        · exact absurd h2 hj3
        · omega
      · exact hlt j hj (by omega) hj3
theorem last_take {k : Nat} {ex sc : Nat → Int} {cd l : Int} (h : Last k ex sc cd l) (hk : ex k ≠ 0) (h2 : cd = 0 ∨ l ≤ sc k - 62135596800) : Last (k + 1) ex sc (ex k) (sc k - 62135596800) := by
  refine .inr ⟨k, by omega, hk, rfl, rfl, fun j hj hj2 => ?_, fun j hj hj2 hj3 => by omega⟩
  by_cases e : j = k
  · subst e; omega
  · rcases h with ⟨h0, rfl, rfl⟩ | ⟨m, hm, hne, rfl, rfl, hle, hlt⟩
    · exact absurd (h0 j (by omega)) hj2
    · rcases h2 with h2 | h2
      · exact absurd h2 hne
      · have := hle j (by omega) hj2; omega

set_option maxHeartbeats 1600000 in
theorem code_some (g n c : Nat) (ex wl sc : Nat → Int) (w : World) (hn : n ≤ 1048576) (hg : g < w.heap.size)
    (hE : ∀ j, j < n → Elt w g j (ex j) (wl j) (sc j)) (hx : ∀ j, j < n → -2147483648 ≤ ex j ∧ ex j ≤ 2147483647) (hw : ∀ j, j < n → 0 ≤ wl j ∧ wl j < 1000000000) (hs : ∀ j, j < n → 0 ≤ sc j ∧ sc j < 4294967296) :
    Calls Try.prog 6 #[.slice (some ⟨g, 0, none⟩) n c] w fun e w' => (∃ cd, e = .returned (.int .i32 cd) ∧ ∃ l, Last n ex sc cd l) ∧ Below w.heap.size w w' := by
  go_enter Try.func6, Try.ntmps6
  go_wp2
  go_loopw [3, 4, 9] (fun vc vl vi wr => ∃ (k : Nat) (cd l : Int), k ≤ n ∧ vi = .int .i64 k ∧ vc = .int .i32 cd ∧ vl = .int .i64 l ∧ Hid (Last k ex sc cd l) ∧ Below w.heap.size w wr) (fun _ _ vi _ => n - (intOf vi).toNat)
  case atStart => exact ⟨0, 0, 0, Nat.zero_le _, rfl, rfl, rfl, .inl ⟨fun j hj => absurd hj (Nat.not_lt_zero _), rfl, rfl⟩, Below.refl _ _⟩
  case round =>
    obtain ⟨k, cd, l, hk, rfl, rfl, rfl, HL, hnx⟩ := hrel
    by_cases hlt : (k : Int) < (n : Int)
    · have hk' : k < n := by omega
      obtain ⟨c0, c1, c2, c3, c4, c5, c6⟩ := hE k hk'
      have d0 := (hnx.cell (p := ⟨g, k * 7, none⟩) hg).trans c0
      have d1 := (hnx.cell (p := ⟨g, k * 7 + 1, none⟩) hg).trans c1
      have d2 := (hnx.cell (p := ⟨g, k * 7 + 2, none⟩) hg).trans c2
      have d3 := (hnx.cell (p := ⟨g, k * 7 + 3, none⟩) hg).trans c3
      have d4 := (hnx.cell (p := ⟨g, k * 7 + 4, none⟩) hg).trans c4
      have d5 := (hnx.cell (p := ⟨g, k * 7 + 5, none⟩) hg).trans c5
      have d6 := (hnx.cell (p := ⟨g, k * 7 + 6, none⟩) hg).trans c6
      clear c0 c1 c2 c3 c4 c5 c6
      obtain ⟨x1, x2⟩ := hx k hk'
      obtain ⟨w1, w2⟩ := hw k hk'
      obtain ⟨s1, s2⟩ := hs k hk'
      have HN : Hid (wr.heap.size < wr.heap.size + 1) := Nat.lt_succ_self _
      by_cases he : ex k = 0
      · have L := hideC (last_skip HL.out (.inl he))
        have he0 : (ex k != 0) = false := by simpa using he
        clear he HL
        go_wp2
        go_roundw
        case rel => exact ⟨k + 1, cd, l, by omega, by go_num, rfl, rfl, L, hnx.alloc hnx.size _⟩
        case measure => simp [intOf]; omega
      · have he0 : (ex k != 0) = true := by simpa using he
        by_cases hc0 : cd = 0
        · have L := hideC (last_take HL.out he (.inl hc0))
          have hcb : (cd == 0) = true := by simpa using hc0
          clear he HL hc0
          go_wp2_with fail
          go_region_held3 (fun w' => w'.cell? ⟨wr.heap.size, 0, none⟩ = some (.int .i32 (ex k)) ∧ w'.cell? ⟨wr.heap.size, 4, none⟩ = some (.int .u64 (wl k)) ∧ w'.cell? ⟨wr.heap.size, 5, none⟩ = some (.int .i64 (sc k)) ∧ w'.cell? ⟨wr.heap.size, 6, none⟩ = some (.pointer none)) (simp [go_sem])
            (first | (go_at_call 9; refine (unix_any (wl k) (sc k) _ w1 (by omega) s1 s2).mono ?_; rintro e w' ⟨rfl, rfl⟩))
          go_wp2
          go_roundw
          case rel =>
            have B := (hnx.alloc hnx.size (.cells #[.int .i32 (ex k), .int .u64 0, .int .i64 0, .pointer none, .int .u64 (wl k), .int .i64 (sc k), .pointer none] 34)).alloc (by simp; have := hnx.size; omega) (.cells #[.int .u64 (wl k), .int .i64 (sc k), .pointer none] 31)
            exact ⟨k + 1, ex k, sc k - 62135596800, by omega, by go_num, rfl, rfl, L, B.drew⟩
          case measure => simp [intOf]; omega
        · have hcb : (cd == 0) = false := by simpa using hc0
          by_cases hl : l ≤ sc k - 62135596800
          · have L := hideC (last_take HL.out he (.inr hl))
            clear he HL hc0
            go_wp2_with (go_at_call 9; refine (unix_any (wl k) (sc k) _ w1 (by omega) s1 s2).mono ?_; rintro e w' ⟨rfl, rfl⟩)
            go_region_held3 (fun w' => w'.cell? ⟨wr.heap.size, 0, none⟩ = some (.int .i32 (ex k)) ∧ w'.cell? ⟨wr.heap.size, 4, none⟩ = some (.int .u64 (wl k)) ∧ w'.cell? ⟨wr.heap.size, 5, none⟩ = some (.int .i64 (sc k)) ∧ w'.cell? ⟨wr.heap.size, 6, none⟩ = some (.pointer none)) (simp [go_sem])
              (first | (go_at_call 9; refine (unix_any (wl k) (sc k) _ w1 (by omega) s1 s2).mono ?_; rintro e w' ⟨rfl, rfl⟩))
            go_wp2
            go_roundw
            case rel =>
              have B := ((hnx.alloc hnx.size (.cells #[.int .i32 (ex k), .int .u64 0, .int .i64 0, .pointer none, .int .u64 (wl k), .int .i64 (sc k), .pointer none] 34)).alloc (by simp; have := hnx.size; omega) (.cells #[.int .u64 (wl k), .int .i64 (sc k), .pointer none] 31)).alloc (by simp; have := hnx.size; omega) (.cells #[.int .u64 (wl k), .int .i64 (sc k), .pointer none] 31)
              exact ⟨k + 1, ex k, sc k - 62135596800, by omega, by go_num, rfl, rfl, L, B.drew⟩
            case measure => simp [intOf]; omega
          · have L := hideC (last_skip HL.out (.inr ⟨hc0, by omega⟩))
            clear he HL hc0
            go_wp2_with (go_at_call 9; refine (unix_any (wl k) (sc k) _ w1 (by omega) s1 s2).mono ?_; rintro e w' ⟨rfl, rfl⟩)
            go_roundw
            case rel => exact ⟨k + 1, cd, l, by omega, by go_num, rfl, rfl, L, (hnx.alloc hnx.size _).alloc (by simp; have := hnx.size; omega) _⟩
            case measure => simp [intOf]; omega
    · obtain rfl : k = n := by omega
      go_wp2
      go_ret
      exact ⟨⟨cd, rfl, l, HL.out⟩, hnx⟩

set_option maxHeartbeats 400000 in
theorem code_nil (w : World) : Calls Try.prog 6 #[.slice none 0 0] w fun e w' => e = .returned (.int .i32 0) ∧ w = w' := by
  go_enter Try.func6, Try.ntmps6
  go_wp2
  go_loop [3, 4, 9] (fun vc vl vi => vi = .int .i64 0 ∧ vc = .int .i32 0) (fun _ _ _ => 0)
  case atStart => exact ⟨rfl, rfl⟩
  case round =>
    obtain ⟨rfl, rfl⟩ := hrel
    go_wp2
    go_ret
    exact ⟨rfl, rfl⟩
end Go.Proofs.Qxb6623269a
