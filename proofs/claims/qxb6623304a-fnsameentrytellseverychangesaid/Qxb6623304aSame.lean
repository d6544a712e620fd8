/- THE WALKS of sameEntry, ZZSameEntry, the length bound. -/
import Derived.Test.Qxb6623304aRows
import Derived.WalkKit
import Derived.WalkSpells
import Derived.ProofKit
import Derived.Laws.IdiomStrings
namespace Go.Proofs.Qxb6623304a
open Go.RowKit
set_option linter.unusedVariables false

/-- the slice '.slice a n c' reads as the bytes l: nil, or at the head of a row -/
def Row (w : World) (a : Option Addr) (n c : Nat) (l : List UInt8) : Prop :=
  n = l.length ∧ ((a = none ∧ n = 0 ∧ c = 0) ∨ ∃ b, a = some ⟨b, 0, none⟩ ∧ b < w.heap.size ∧ n ≤ c ∧ ∀ j (hj : j < l.length), w.cell? ⟨b, j, none⟩ = some (.int .u8 (l[j].toNat : Int)))

theorem Row.below {w w' : World} {a : Option Addr} {n c : Nat} {l : List UInt8} (h : Row w a n c l) (hb : Below w.heap.size w w') : Row w' a n c l := by
  obtain ⟨h1, h2⟩ := h
  refine ⟨h1, ?_⟩
  rcases h2 with h2 | ⟨b, e, hlt, hc, hx⟩
  · exact .inl h2
  · exact .inr ⟨b, e, Nat.lt_of_lt_of_le hlt hb.size, hc, fun j hj => (hb.cell (p := ⟨b, j, none⟩) hlt).trans (hx j hj)⟩

theorem Row.conv {w : World} {a : Option Addr} {n c : Nat} {l : List UInt8} (h : Row w a n c l) : (convert 22 9 (.slice a n c)).run Try.prog w = .ok (.string ⟨l.toArray⟩) w := by
  obtain ⟨rfl, h2⟩ := h
  rcases h2 with ⟨rfl, h0, rfl⟩ | ⟨b, rfl, hlt, hc, hx⟩
  · have : l = [] := List.eq_nil_of_length_eq_zero h0
    subst this
    show (convert 22 9 (.slice none 0 0)).run Try.prog w = .ok (.string ⟨#[]⟩) w
    rw [run_convert_bytes_string w 22 9 5 none 0 0 Try.underlying22 Try.underlying5 Try.underlying9]
    simp [Conv.bytesToString]
    rfl
  · refine run_convert_bytes_back (P := Try.prog) w 22 9 5 ⟨b, 0, none⟩ c l Try.underlying22 Try.underlying5 Try.underlying9 (fun j hj => ?_)
    have : (⟨b, 0, none⟩ : Addr).add j = ⟨b, j, none⟩ := by rw [Addr.add_lit, Nat.zero_add]
    rw [this]; exact hx j hj

/-- what sameEntry says -/
def sameB (t1 t2 : Int) (l1 l2 : List UInt8) : Bool := t1 == t2 && l1 == l2
theorem ret_bool {a b : Bool} (h : a = b) : Ending.returned (.bool a) = .returned (.bool b) := by rw [h]

set_option maxHeartbeats 400000 in
theorem same_any (a1 a2 : Option Addr) (n1 c1 n2 c2 : Nat) (l1 l2 : List UInt8) (t1 t2 : Int) (w : World) (h1 : Row w a1 n1 c1 l1) (h2 : Row w a2 n2 c2 l2) :
    Calls Try.prog 7 #[.agg #[.slice a1 n1 c1, .int .u64 t1], .agg #[.slice a2 n2 c2, .int .u64 t2]] w fun e w' => e = .returned (.bool (sameB t1 t2 l1 l2)) ∧ Below w.heap.size w w' := by
  have hb : ∀ o1 o2, Below w.heap.size w ((w.alloc o1).alloc o2) := fun o1 o2 => ((Below.refl _ _).alloc (Nat.le_refl _) _).alloc (by simp) _
  have k1 := fun o1 o2 => (h1.below (hb o1 o2)).conv
  have k2 := fun o1 o2 => (h2.below (hb o1 o2)).conv
  have HB := hb
  clear h1 h2 hb
  by_cases ht : t1 = t2
  · have e1 : (t1 == t2) = true := by simpa using ht
    have HE : Hid (t1 = t2) := ht
    clear ht
    go_enter Try.func7, Try.ntmps7
    go_wp2
    go_ret
    exact ⟨ret_bool (by unfold sameB; rw [e1]; rfl), HB _ _⟩
  · have e1 : (t1 == t2) = false := by simpa using ht
    clear ht
    go_enter Try.func7, Try.ntmps7
    go_wp2
    go_ret
    exact ⟨ret_bool (by unfold sameB; rw [e1]; rfl), HB _ _⟩

set_option maxHeartbeats 400000 in
theorem zzSame_any (a1 a2 : Option Addr) (n1 c1 n2 c2 : Nat) (l1 l2 : List UInt8) (t1 t2 : Int) (w : World) (h1 : Row w a1 n1 c1 l1) (h2 : Row w a2 n2 c2 l2) :
    Calls Try.prog 6 #[.slice a1 n1 c1, .int .u64 t1, .slice a2 n2 c2, .int .u64 t2] w fun e w' => e = .returned (.bool (sameB t1 t2 l1 l2)) ∧ Below w.heap.size w w' := by
  go_enter Try.func6, Try.ntmps6
  go_wp2_with (go_at_call 7; refine (same_any a1 a2 n1 c1 n2 c2 l1 l2 t1 t2 _ h1 h2).mono ?_; rintro e w' ⟨rfl, hb⟩)
  go_ret
  exact ⟨rfl, hb⟩

theorem bytes_any (a : Option Addr) (n c : Nat) (t d i x ext : Int) (w : World) (hn : n ≤ maxLen) :
    Calls Try.prog 4 #[.slice a n c, .int .u64 t, .int .u64 d, .int .i64 i, .int .u8 x, .int .u8 ext] w fun e w' => e = .returned (.bool (decide ((n : Int) ≤ 1048576))) ∧ w = w' := by
  unfold maxLen at hn
  by_cases h : 1048576 < (n : Int)
  · go_enter Try.func4, Try.ntmps4
    go_wp2
    go_ret
    exact ⟨ret_bool (decide_eq_false (by omega)).symm, rfl⟩
  · go_enter Try.func4, Try.ntmps4
    go_wp2
    go_ret
    exact ⟨rfl, rfl⟩
end Go.Proofs.Qxb6623304a
