/- THE PLAIN PART ON DIGITS, AND THE WALKS of allDigits, ZZallDigits, b1DigitsByBytes, the two length bounds. -/
import Derived.Test.Qxb6619613aRows
import Derived.WalkKit
import Derived.WalkSpells
import Derived.ProofKit
namespace Go.Proofs.Qxb6619613a
open Go.RowKit

theorem hide {p : Prop} (h : p) : Hid p := h
theorem unhide {p : Prop} (h : Hid p) : p := h

/-- one ASCII digit -/
def isD (c : UInt8) : Bool := decide (48 ≤ c.toNat) && decide (c.toNat ≤ 57)
/-- not empty, and digits alone -/
def adB (l : List UInt8) : Bool := !l.isEmpty && l.all isD

/-- the same, of a string (closed to the walk) -/
def adS (s : ByteArray) : Bool := adB s.data.toList

theorem isD_of {c : UInt8} (h : 48 ≤ c.toNat ∧ c.toNat ≤ 57) : isD c = true := by simp [isD, h.1, h.2]
theorem isD_not {c : UInt8} (h : c.toNat < 48 ∨ 57 < c.toNat) : isD c = false := by
  unfold isD; rcases h with h | h
  · simp [show ¬ 48 ≤ c.toNat by omega]
  · simp [show ¬ c.toNat ≤ 57 by omega]

theorem take_snoc (s : ByteArray) (k : Nat) (h : k < s.size) : s.data.toList.take (k + 1) = s.data.toList.take k ++ [s[k]] := by
  rw [List.take_succ_eq_append_getElem (by simpa using h)]; rfl
theorem all_snoc (s : ByteArray) (k : Nat) (h : k < s.size) (ha : (s.data.toList.take k).all isD = true) (hd : isD s[k] = true) : (s.data.toList.take (k + 1)).all isD = true := by
  rw [take_snoc s k h, List.all_append, ha]; simp [hd]
theorem all_not (s : ByteArray) (k : Nat) (h : k < s.size) (hd : isD s[k] = false)   : adS s = false := by
  have hm : s[k] ∈ s.data.toList := by
    have : s[k] = s.data.toList[k]'(by simpa using h) := rfl
    rw [this]; exact List.getElem_mem _
  unfold adS adB
  have : s.data.toList.all isD = false := by
    rw [List.all_eq_false]; exact ⟨_, hm, by simp [hd]⟩
  rw [this]; simp
theorem all_end (s : ByteArray) (k : Nat) (h : ¬ k < s.size) (ha : (s.data.toList.take k).all isD = true) : s.data.toList.all isD = true := by
  rw [List.take_of_length_le (by simp; omega)] at ha; exact ha
theorem ret_bool {a b : Bool} (h : a = b) : Ending.returned (.bool a) = .returned (.bool b) := by rw [h]

set_option maxRecDepth 100000 in
set_option maxHeartbeats 400000 in
theorem allDigits_any (s : ByteArray) (w : World) :
    Calls Try.prog 24 #[.string s] w fun e w' => e = .returned (.bool (adS s)) ∧ Below w.heap.size w w' := by
  go_enter Try.func24, Try.ntmps24
  go_wp2
  go_loopw [4] (fun _ w' => ∃ pos : Nat, w' = w.iter s pos ∧ (s.data.toList.take pos).all isD = true) (fun _ w' => s.size - w'.iterPos w.heap.size)
  case atStart => exact ⟨0, rfl, rfl⟩
  case round =>
    obtain ⟨pos, rfl, hall⟩ := hrel
    have HA : Hid ((s.data.toList.take pos).all isD = true) := hall
    clear hall
    by_cases hp : pos < s.size
    · by_cases ha : (s[pos]'hp).toNat < 128
      · have hnx : ∀ ty, (Instr.next (.pointer (some ⟨w.heap.size, 0, none⟩)) true ty).run Try.prog (w.iter s pos) = _ := fun ty => run_next_ascii w s pos ty hp ha
        by_cases h48 : ((s[pos]'hp).toNat : Int) < 48
        · go_wp2
          go_ret
          exact ⟨ret_bool (all_not s pos hp (isD_not (by omega))).symm, (Below.refl _ _).alloc (Nat.le_refl _) _⟩
        · by_cases h57 : 57 < ((s[pos]'hp).toNat : Int)
          · go_wp2
            go_ret
            exact ⟨ret_bool (all_not s pos hp (isD_not (by omega))).symm, (Below.refl _ _).alloc (Nat.le_refl _) _⟩
          · go_wp2
            go_roundw
            case rel => exact ⟨pos + 1, rfl, all_snoc s pos hp HA.out (isD_of (by omega))⟩
            case measure => simp; omega
      · have hnx : ∀ ty, (Instr.next (.pointer (some ⟨w.heap.size, 0, none⟩)) true ty).run Try.prog (w.iter s pos) = _ := fun ty => run_next_any w s pos ty hp
        have hh := (decode_high s pos hp (by omega)).1
        have h57 : 57 < ((Utf8.decode s pos).1 : Int) := by omega
        have h48 : ¬ ((Utf8.decode s pos).1 : Int) < 48 := by omega
        go_wp2
        go_ret
        exact ⟨ret_bool (all_not s pos hp (isD_not (by omega))).symm, (Below.refl _ _).alloc (Nat.le_refl _) _⟩
    · have hnx : ∀ ty, (Instr.next (.pointer (some ⟨w.heap.size, 0, none⟩)) true ty).run Try.prog (w.iter s pos) = _ := fun ty => run_next_end w s pos ty hp
      go_wp2
      go_ret
      refine ⟨ret_bool ?_, (Below.refl _ _).alloc (Nat.le_refl _) _⟩
      have := all_end s pos hp HA.out
      rw [ByteArray.toList_eq]; unfold adS adB; rw [this]; simp

set_option maxHeartbeats 400000 in
theorem zzAllDigits_any (s : ByteArray) (w : World) :
    Calls Try.prog 13 #[.string s] w fun e w' => e = .returned (.bool (adS s)) ∧ Below w.heap.size w w' := by
  go_enter Try.func13, Try.ntmps13
  go_wp2_with (go_at_call 24; refine (allDigits_any s _).mono ?_; rintro e w' ⟨rfl, hb⟩)
  go_ret
  exact ⟨rfl, hb⟩

set_option maxHeartbeats 400000 in
theorem byBytes_any (s : ByteArray) (w : World) (hs : s.size ≤ maxLen) :
    Calls Try.prog 14 #[.string s] w fun e w' => e = .returned (.bool (adS s)) ∧ w' = w := by
  unfold maxLen at hs
  by_cases he : s.size = 0
  · have hl : s.data.toList = [] := by
      apply List.eq_nil_of_length_eq_zero; simpa using he
    have hem : s.toList.isEmpty = true := by rw [ByteArray.toList_eq, hl]; rfl
    go_enter Try.func14, Try.ntmps14
    go_wp2
    go_ret
    exact ⟨ret_bool (by simp [adS, adB, hl]), rfl⟩
  · have hem : s.toList.isEmpty = false := by
      rw [ByteArray.toList_eq]
      cases h : s.data.toList with
      | nil => exfalso; apply he; have := congrArg List.length h; simpa using this
      | cons a l => rfl
    go_enter Try.func14, Try.ntmps14
    go_wp2
    go_loop [3] (fun i => ∃ k : Nat, k ≤ s.size ∧ i = .int .i64 k ∧ Hid ((s.data.toList.take k).all isD = true)) (fun i => s.size - (intOf i).toNat)
    case atStart => exact ⟨0, Nat.zero_le _, rfl, rfl⟩
    case round =>
      obtain ⟨k, hk, rfl, HA⟩ := hrel
      by_cases hlt : k < s.size
      · by_cases h48 : ((s[k]).toNat : Int) < 48
        · go_wp2
          go_ret
          exact ⟨ret_bool (all_not s k hlt (isD_not (by omega))).symm, rfl⟩
        · by_cases h57 : 57 < ((s[k]).toNat : Int)
          · go_wp2
            go_ret
            exact ⟨ret_bool (all_not s k hlt (isD_not (by omega))).symm, rfl⟩
          · go_wp2
            go_round
            case rel => exact ⟨k + 1, by omega, by go_num, all_snoc s k hlt HA.out (isD_of (by omega))⟩
            case measure => simp [intOf]; omega
      · go_wp2
        go_ret
        have := all_end s k hlt HA.out
        exact ⟨ret_bool (by unfold adS adB; rw [this, ← ByteArray.toList_eq, hem]; rfl), rfl⟩

theorem bytesCut_any (s : ByteArray) (i : Int) (w : World) (hs : s.size ≤ maxLen) :
    Calls Try.prog 12 #[.string s, .int .i64 i] w fun e w' => e = .returned (.bool (decide ((s.size : Int) ≤ 1048576))) ∧ w' = w := by
  unfold maxLen at hs
  by_cases h : 1048576 < (s.size : Int)
  · go_enter Try.func12, Try.ntmps12
    go_wp2
    go_ret
    exact ⟨ret_bool (decide_eq_false (by omega)).symm, rfl⟩
  · go_enter Try.func12, Try.ntmps12
    go_wp2
    go_ret
    exact ⟨rfl, rfl⟩
end Go.Proofs.Qxb6619613a
