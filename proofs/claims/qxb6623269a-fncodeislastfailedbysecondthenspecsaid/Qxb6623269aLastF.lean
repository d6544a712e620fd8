/- THE WALK of lastFailed over the slice that came in; that its answer and Code's are one. -/
import Derived.Test.Qxb6623269aCode
namespace Go.Proofs.Qxb6623269a
open Go.RowKit
set_option linter.unusedVariables false

/-- two answers that are both 'the last that failed' are one -/
theorem Last.uniq {n : Nat} {ex sc : Nat → Int} {c d l m : Int} (h : Last n ex sc c l) (h' : Last n ex sc d m) : c = d := by
  rcases h with ⟨h0, rfl, rfl⟩ | ⟨a, ha, hne, rfl, rfl, hle, hlt⟩
  · rcases h' with ⟨_, rfl, _⟩ | ⟨b, hb, hne', _⟩
    · rfl
    · exact absurd (h0 b hb) hne'
  · rcases h' with ⟨h0, _⟩ | ⟨b, hb, hne', rfl, rfl, hle', hlt'⟩
    · exact absurd (h0 a ha) hne
    · rcases Nat.lt_trichotomy a b with h | h | h
      · have := hlt b h hb hne'; have := hle' a ha hne; omega
      · rw [h]
      · have := hlt' a h ha hne; have := hle b hb hne'; omega

/-- of the first k: has one failed, and the greatest second among those -/
def Mx (k : Nat) (ex sc : Nat → Int) (f : Bool) (mx : Int) : Prop :=
  ((∀ j, j < k → ex j = 0) ∧ f = false ∧ mx = 0) ∨ (f = true ∧ ∃ m, m < k ∧ ex m ≠ 0 ∧ mx = sc m ∧ ∀ j, j < k → ex j ≠ 0 → sc j ≤ sc m)

theorem mx_skip {k : Nat} {ex sc : Nat → Int} {f : Bool} {mx : Int} (h : Mx k ex sc f mx) (h2 : ex k = 0 ∨ (f = true ∧ sc k ≤ mx)) : Mx (k + 1) ex sc f mx := by
  rcases h with ⟨h0, rfl, rfl⟩ | ⟨rfl, m, hm, hne, rfl, hle⟩
  · rcases h2 with h2 | ⟨h2, _⟩
    · refine .inl ⟨fun j hj => ?_, rfl, rfl⟩
      by_cases e : j = k
      · subst e; exact h2
      · exact h0 j (by omega)
    · cases h2
  · refine .inr ⟨rfl, m, by omega, hne, rfl, fun j hj hj2 => ?_⟩
    by_cases e : j = k
    · subst e; rcases h2 with h2 | ⟨_, h2⟩
      · exact absurd h2 hj2
      · exact h2
    · exact hle j (by omega) hj2
theorem mx_take {k : Nat} {ex sc : Nat → Int} {f : Bool} {mx : Int} (h : Mx k ex sc f mx) (hk : ex k ≠ 0) (h2 : f = false ∨ mx < sc k) : Mx (k + 1) ex sc true (sc k) := by
  refine .inr ⟨rfl, k, by omega, hk, rfl, fun j hj hj2 => ?_⟩
  by_cases e : j = k
  · subst e; omega
  · rcases h with ⟨h0, rfl, rfl⟩ | ⟨rfl, m, hm, hne, rfl, hle⟩
    · exact absurd (h0 j (by omega)) hj2
    · rcases h2 with h2 | h2
      · cases h2
      · have := hle j (by omega) hj2; omega
theorem mx_none {n : Nat} {ex sc : Nat → Int} {mx : Int} (h : Mx n ex sc false mx) : Last n ex sc 0 0 := by
  rcases h with ⟨h0, _, _⟩ | ⟨h, _⟩
  · exact .inl ⟨h0, rfl, rfl⟩
  · cases h
theorem mx_found {n m : Nat} {ex sc : Nat → Int} {mx : Int} (h : Mx n ex sc true mx) (hm : m < n) (he : ex m ≠ 0) (hs : sc m = mx) (hA : ∀ j, m < j → j < n → ¬ (ex j ≠ 0 ∧ sc j = mx)) : Last n ex sc (ex m) (sc m - 62135596800) := by
  rcases h with ⟨_, h, _⟩ | ⟨_, p, hp, hne, rfl, hle⟩
  · cases h
  · refine .inr ⟨m, hm, he, rfl, rfl, fun j hj hj2 => by rw [hs]; exact hle j hj hj2, fun j hj hj2 hj3 => ?_⟩
    have h1 := hle j hj2 hj3
    have h2 := hA j hj hj2
    by_cases e : sc j = sc p
    · exact absurd ⟨hj3, e⟩ h2
    · omega
theorem mx_some {n : Nat} {ex sc : Nat → Int} {mx : Int} (h : Mx n ex sc true mx) (hA : ∀ j, j < n → ¬ (ex j ≠ 0 ∧ sc j = mx)) : False := by
  rcases h with ⟨_, h, _⟩ | ⟨_, p, hp, hne, rfl, hle⟩
  · cases h
  · exact hA p hp ⟨hne, rfl⟩

set_option maxHeartbeats 1600000 in
theorem lastFailed_any (a : Option Addr) (b off n c : Nat) (ex sc : Nat → Int) (w : World) (hn : n ≤ 1048576) (ha : 0 < n → a = some ⟨b, off, none⟩)
    (hE : ∀ j, j < n → w.cell? ⟨b, off + j * 3, none⟩ = some (.int .i32 (ex j)) ∧ w.cell? ⟨b, off + j * 3 + 1, none⟩ = some (.int .u32 (sc j))) :
    Calls Try.prog 7 #[.slice a n c] w fun e w' => (∃ cd, e = .returned (.int .i32 cd) ∧ ∃ l, Last n ex sc cd l) ∧ w = w' := by
  have HA := hideC ha
  clear ha
  go_enter Try.func7, Try.ntmps7
  go_wp2
  go_loop [3, 4, 5] (fun vf vm vi => ∃ (k : Nat) (f : Bool) (mx : Int), k ≤ n ∧ vi = .int .i64 k ∧ vf = .bool f ∧ vm = .int .u32 mx ∧ Hid (Mx k ex sc f mx)) (fun _ _ vi => n - (intOf vi).toNat)
  case atStart => exact ⟨0, false, 0, Nat.zero_le _, rfl, rfl, rfl, .inl ⟨fun j hj => absurd hj (Nat.not_lt_zero _), rfl, rfl⟩⟩
  case round =>
    obtain ⟨k, f, mx, hk, rfl, rfl, rfl, HM⟩ := hrel
    by_cases hlt : (k : Int) < (n : Int)
    · have hk' : k < n := by omega
      obtain rfl := HA.out (by omega)
      obtain ⟨c0, c1⟩ := hE k hk'
      by_cases he : ex k = 0
      · have L := hideC (mx_skip HM.out (.inl he))
        have he0 : (ex k != 0) = false := by simpa using he
        clear he HM
        go_wp2
        go_round
        case rel => exact ⟨k + 1, f, mx, by omega, by go_num, rfl, rfl, L⟩
        case measure => simp [intOf]; omega
      · have he0 : (ex k != 0) = true := by simpa using he
        cases f
        · have L := hideC (mx_take HM.out he (.inl rfl))
          clear he HM
          go_wp2
          go_round
          case rel => exact ⟨k + 1, true, sc k, by omega, by go_num, rfl, rfl, L⟩
          case measure => simp [intOf]; omega
        · by_cases hs : mx < sc k
          · have L := hideC (mx_take HM.out he (.inr hs))
            clear he HM
            go_wp2
            go_round
            case rel => exact ⟨k + 1, true, sc k, by omega, by go_num, rfl, rfl, L⟩
            case measure => simp [intOf]; omega
          · have L := hideC (mx_skip HM.out (.inr ⟨rfl, by omega⟩))
            clear he HM
            go_wp2
            go_round
            case rel => exact ⟨k + 1, true, mx, by omega, by go_num, rfl, rfl, L⟩
            case measure => simp [intOf]; omega
    · obtain rfl : k = n := by omega
      cases f
      · go_wp2
        go_ret
        exact ⟨⟨0, rfl, 0, mx_none HM.out⟩, rfl⟩
      · go_wp2
        go_loop [6] (fun vi => ∃ m : Nat, m ≤ k ∧ vi = .int .i64 ((m : Int) - 1) ∧ Hid (∀ j, m ≤ j → j < k → ¬ (ex j ≠ 0 ∧ sc j = mx))) (fun vi => (intOf vi + 1).toNat)
        case atStart => exact ⟨k, Nat.le_refl _, rfl, fun j h1 h2 => by omega⟩
        case round =>
          obtain ⟨m, hm, rfl, HJ⟩ := hrel
          by_cases h0 : m = 0
          · exfalso
            subst h0
            exact mx_some HM.out (fun j hj => HJ.out j (Nat.zero_le _) hj)
          · obtain ⟨m, rfl⟩ : ∃ q, m = q + 1 := ⟨m - 1, by omega⟩
            obtain rfl := HA.out (by omega)
            obtain ⟨c0, c1⟩ := hE m (by omega)
            have em : ((m + 1 : Nat) : Int) - 1 = (m : Int) := by omega
            rw [em]
            clear em
            have hm0 : (0 : Int) ≤ (m : Int) := by omega
            have hmk : (m : Int) < (k : Int) := by omega
            by_cases he : ex m = 0
            · have he0 : (ex m != 0) = false := by simpa using he
              have J : Hid (∀ j, m ≤ j → j < k → ¬ (ex j ≠ 0 ∧ sc j = mx)) := fun j h1 h2 => by
                by_cases e : j = m
                · subst e; exact fun h => h.1 he
                · exact HJ.out j (by omega) h2
              clear he HJ
              go_wp2
              go_round
              case rel => exact ⟨m, by omega, rfl, J⟩
              case measure => simp [intOf]
            · have he0 : (ex m != 0) = true := by simpa using he
              by_cases hs : sc m = mx
              · have hs0 : (sc m == mx) = true := by simpa using hs
                have L := hideC (mx_found HM.out (by omega) he hs (fun j h1 h2 => HJ.out j (by omega) h2))
                clear he hs HJ HM
                go_wp2
                go_ret
                exact ⟨⟨ex m, rfl, _, L.out⟩, rfl⟩
              · have hs0 : (sc m == mx) = false := by simpa using hs
                have J : Hid (∀ j, m ≤ j → j < k → ¬ (ex j ≠ 0 ∧ sc j = mx)) := fun j h1 h2 => by
                  by_cases e : j = m
                  · subst e; exact fun h => hs h.2
                  · exact HJ.out j (by omega) h2
                clear he hs HJ
                go_wp2
                go_round
                case rel => exact ⟨m, by omega, rfl, J⟩
                case measure => simp [intOf]
end Go.Proofs.Qxb6623269a
