/- FnAllDigitsInsertByte: the walk. -/
import Derived.Test.Qxb6619613aDig
import Derived.Laws.IdiomStrings
import Derived.OpenShut
namespace Go.Proofs.Qxb6619613a.fnAllDigitsInsertByte
open Go.RowKit
set_option linter.unusedVariables false

theorem bytesIns_any (s : ByteArray) (i c : Int) (w : World) (hs : s.size ≤ maxLen) :
    Calls Try.prog 15 #[.string s, .int .i64 i, .int .u8 c] w fun e w' => e = .returned (.bool (decide ((s.size : Int) ≤ 1048576))) ∧ w = w' := by
  unfold maxLen at hs
  by_cases h : 1048576 < (s.size : Int)
  · go_enter Try.func15, Try.ntmps15
    go_wp2
    go_ret
    exact ⟨ret_bool (decide_eq_false (by omega)).symm, rfl⟩
  · go_enter Try.func15, Try.ntmps15
    go_wp2
    go_ret
    exact ⟨rfl, rfl⟩

theorem info5 : (Try.prog.info? 5).map (fun i => (i.zero, i.size, i.bytes)) = some (some (.int .u8 0), 1, 1) := by kernel_rfl

/-- the bytes as cells -/
def cellsOf (l : List UInt8) : List Value := l.map fun b => Value.int .u8 (b.toNat : Int)

theorem cellsOf_snoc (l : List UInt8) (c : UInt8) : cellsOf (l ++ [c]) = cellsOf l ++ [Value.int .u8 (c.toNat : Int)] := by simp [cellsOf]
theorem cellsOf_at (l : List UInt8) (j : Nat) (hj : j < l.length) : (cellsOf l)[j]? = some (Value.int .u8 (l[j].toNat : Int)) := by simp [cellsOf, hj]

/-- the text with c put in at i -/
def ins (l : List UInt8) (i : Nat) (c : UInt8) : List UInt8 := l.take i ++ [c] ++ l.drop i

/-- on the way: k bytes of l done, c among them -/
def mid (l : List UInt8) (i k : Nat) (c : UInt8) : List UInt8 := l.take i ++ [c] ++ (l.take k).drop i
theorem mid_start (l : List UInt8) (i : Nat) (c : UInt8) : mid l i i c = l.take i ++ [c] := by
  unfold mid; rw [List.drop_eq_nil_of_le (by simp; omega)]; simp
theorem mid_step (s : ByteArray) (i k : Nat) (c : UInt8) (h : k < s.size) (hi : i ≤ k) : mid s.data.toList i (k + 1) c = mid s.data.toList i k c ++ [s[k]] := by
  unfold mid
  rw [take_snoc s k h, List.drop_append_of_le_length (by simp; omega), List.append_assoc, List.append_assoc, List.append_assoc]
theorem mid_end (s : ByteArray) (i : Nat) (c : UInt8) : mid s.data.toList i s.size c = ins s.data.toList i c := by
  unfold mid ins; rw [show s.data.toList.take s.size = s.data.toList from List.take_of_length_le (by simp)]
theorem ins_length (s : ByteArray) (i : Nat) (c : UInt8) (h : i ≤ s.size) : (ins s.data.toList i c).length = s.size + 1 := by
  simp [ins]; omega

theorem law (s : ByteArray) (i : Nat) (c : UInt8) : adS ⟨(ins s.data.toList i c).toArray⟩ = (isD c && (s.toList.isEmpty || adS s)) := by
  unfold adS ins
  rw [ByteArray.toList_eq]
  generalize s.data.toList = l
  have h : l.all isD = ((l.take i).all isD && (l.drop i).all isD) := by rw [← List.all_append, List.take_append_drop]
  have e1 : ∀ x : List UInt8, (x.isEmpty || adB x) = x.all isD := by intro x; cases x <;> simp [adB]
  rw [e1, h]
  unfold adB
  simp
  cases isD c <;> simp

theorem one_cell (k : IntKind) (n : Int) : ∀ u ∈ [Value.int k n], u.oneCell' = true := by
  intro u hu; simp at hu; subst hu; rfl

theorem u8_of (a : Int) (h : (Lit.int .u8 a).wf = true) : ∃ c : UInt8, a = (c.toNat : Int) := by
  have hb := bounds_u8 h
  refine ⟨UInt8.ofNat a.toNat, ?_⟩
  simp
  omega

set_option maxHeartbeats 1600000 in
theorem walk (a0 : ByteArray) (a1 a2 : Int) (w0 : a0.size ≤ maxLen) (w1 : (Lit.int .i64 a1).wf = true) (w2 : (Lit.int .u8 a2).wf = true) (w : World) :
    Calls Try.prog 7 #[.string a0, .int .i64 a1, .int .u8 a2] w fun e w' => e = .returned (.bool true) ∧ Below w.heap.size w w' := by
  have w0' := w0
  unfold maxLen at w0'
  by_cases h1 : 1048576 < (a0.size : Int)
  · have hd : decide ((a0.size : Int) ≤ 1048576) = false := decide_eq_false (by omega)
    go_enter Try.func7, Try.ntmps7
    go_wp2_with (go_at_call 15; refine (bytesIns_any a0 a1 _ _ w0).mono ?_; rintro e w' ⟨rfl, rfl⟩)
    go_ret
    exact ⟨rfl, Below.refl _ _⟩
  have hd : decide ((a0.size : Int) ≤ 1048576) = true := decide_eq_true (by omega)
  by_cases h2 : 65536 < (a0.size : Int)
  · go_enter Try.func7, Try.ntmps7
    go_wp2_with (go_at_call 15; refine (bytesIns_any a0 a1 _ _ w0).mono ?_; rintro e w' ⟨rfl, rfl⟩)
    go_ret
    exact ⟨rfl, Below.refl _ _⟩
  by_cases h3 : a1 < 0
  · go_enter Try.func7, Try.ntmps7
    go_wp2_with (go_at_call 15; refine (bytesIns_any a0 a1 _ _ w0).mono ?_; rintro e w' ⟨rfl, rfl⟩)
    go_ret
    exact ⟨rfl, Below.refl _ _⟩
  obtain ⟨i, rfl⟩ := Int.eq_ofNat_of_zero_le (show 0 ≤ a1 by omega)
  by_cases h4 : (a0.size : Int) < (i : Int)
  · go_enter Try.func7, Try.ntmps7
    go_wp2_with (go_at_call 15; refine (bytesIns_any a0 _ _ _ w0).mono ?_; rintro e w' ⟨rfl, rfl⟩)
    go_ret
    exact ⟨rfl, Below.refl _ _⟩
  obtain ⟨c, rfl⟩ := u8_of a2 w2
  obtain ⟨i0, hi, hz0, hz1, hz2⟩ := info_parts info5
  go_enter Try.func7, Try.ntmps7
  go_wp2_with (first
    | (go_at_call 15; refine (bytesIns_any a0 _ _ _ w0).mono ?_; rintro e w' ⟨rfl, rfl⟩)
    | (at_make; refine wpList_make_own _ rfl _ _ 28 rfl w.heap.size 5 i0 (.int .u8 0) 1 Try.underlying28 hi hz0 hz1 _ _ _ (a0.size + 1) rfl rfl (by omega) ?b2 ?b3 (Nat.le_refl _) ?_))
  case b2 => rw [hz2]; omega
  case b3 => unfold maxLen; omega
  intro w1 hown0 hgrow0
  have hb0 : Below w.heap.size w w1 := (Below.refl _ _).grown hgrow0 (Nat.le_refl _) (fun k h => by cases h)
  clear hgrow0
  go_wp2
  go_loopw [7, 8] (fun v kk wr => ∃ k : Nat, k ≤ i ∧ kk = .int .i64 k ∧ v = .slice (some ⟨w.heap.size, 0, none⟩) k (a0.size + 1) ∧ wr.ownsRow w.heap.size 5 1 (.slice (some ⟨w.heap.size, 0, none⟩) k (a0.size + 1)) k (cellsOf (a0.data.toList.take k)) ∧ Below w.heap.size w wr)
    (fun _ kk _ => i - (intOf kk).toNat)
  case atStart => exact ⟨0, Nat.zero_le _, rfl, rfl, hown0, hb0⟩
  case round =>
    clear hown0 hb0 w1
    obtain ⟨k, hk, rfl, rfl, hown, hnx⟩ := hrel
    by_cases hlt : (k : Int) < (i : Int)
    · have hks : k < a0.size := by omega
      go_wp2_with (at_builtin; refine wpList_append_fits _ rfl (.tmp 38) (.tmp 42) 28 rfl w.heap.size 5 i0 1 Try.underlying28 hi hz1 w.heap.size k (a0.size + 1) _ rfl (hown.alloc _) ⟨wr.heap.size, 0, none⟩ 1 1 [.int .u8 ((a0[k]).toNat : Int)] rfl rfl (cell_one_new _ _ _) (one_cell _ _) (by omega) ?_)
      intro w2 hown2 hgrow2
      have R : w2.ownsRow w.heap.size 5 1 (.slice (some ⟨w.heap.size, 0, none⟩) (k + 1) (a0.size + 1)) (k + 1) (cellsOf (a0.data.toList.take (k + 1))) := by
        rw [take_snoc a0 k hks, cellsOf_snoc]; exact hown2
      have hb2 : Below w.heap.size w w2 := (hnx.alloc hnx.size _).grown hgrow2 (by simp; have := hnx.size; omega) (fun k hk => by cases hk; exact Nat.le_refl _)
      clear hown2 hgrow2 hown hnx
      go_wp2
      go_roundw
      case rel => exact ⟨k + 1, by omega, by go_num, rfl, R, hb2⟩
      case measure => simp [intOf]; omega
    · obtain rfl : k = i := by omega
      go_wp2_with (at_builtin; refine wpList_append_fits _ rfl (.tmp 44) (.tmp 46) 28 rfl w.heap.size 5 i0 1 Try.underlying28 hi hz1 w.heap.size k (a0.size + 1) _ rfl (hown.alloc _) ⟨wr.heap.size, 0, none⟩ 1 1 [.int .u8 (c.toNat : Int)] rfl rfl (cell_one_new _ _ _) (one_cell _ _) (by omega) ?_)
      intro w2 hown2 hgrow2
      have R : w2.ownsRow w.heap.size 5 1 (.slice (some ⟨w.heap.size, 0, none⟩) (k + 1) (a0.size + 1)) (k + 1) (cellsOf (mid a0.data.toList k k c)) := by
        rw [mid_start, cellsOf_snoc]; exact hown2
      have hb2 : Below w.heap.size w w2 := (hnx.alloc hnx.size _).grown hgrow2 (by simp; have := hnx.size; omega) (fun k hk => by cases hk; exact Nat.le_refl _)
      clear hown2 hgrow2 hown hnx
      go_wp2
      go_loopw [7, 9] (fun v kk wr => ∃ m : Nat, k ≤ m ∧ m ≤ a0.size ∧ kk = .int .i64 m ∧ v = .slice (some ⟨w.heap.size, 0, none⟩) (m + 1) (a0.size + 1) ∧ wr.ownsRow w.heap.size 5 1 (.slice (some ⟨w.heap.size, 0, none⟩) (m + 1) (a0.size + 1)) (m + 1) (cellsOf (mid a0.data.toList k m c)) ∧ Below w.heap.size w wr)
        (fun _ kk _ => a0.size - (intOf kk).toNat)
      case atStart => exact ⟨k, Nat.le_refl _, by omega, rfl, rfl, R, hb2⟩
      case round =>
        clear R hb2 w2
        obtain ⟨m, hkm, hm, rfl, rfl, hown, hnx⟩ := hrel
        by_cases hlm : (m : Int) < (a0.size : Int)
        · have hms : m < a0.size := by omega
          go_wp2_with (at_builtin; refine wpList_append_fits _ rfl (.tmp 55) (.tmp 59) 28 rfl w.heap.size 5 i0 1 Try.underlying28 hi hz1 w.heap.size (m + 1) (a0.size + 1) _ rfl (hown.alloc _) ⟨_, 0, none⟩ 1 1 [.int .u8 ((a0[m]).toNat : Int)] rfl rfl (cell_one_new _ _ _) (one_cell _ _) (by omega) ?_)
          intro w2 hown2 hgrow2
          have R : w2.ownsRow w.heap.size 5 1 (.slice (some ⟨w.heap.size, 0, none⟩) (m + 1 + 1) (a0.size + 1)) (m + 1 + 1) (cellsOf (mid a0.data.toList k (m + 1) c)) := by
            rw [mid_step a0 k m c hms hkm, cellsOf_snoc]; exact hown2
          have hb2 : Below w.heap.size w w2 := (hnx.alloc hnx.size _).grown hgrow2 (by simp; have := hnx.size; omega) (fun k hk => by cases hk; exact Nat.le_refl _)
          clear hown2 hgrow2 hown hnx
          go_wp2
          go_roundw
          case rel => exact ⟨m + 1, by omega, by omega, by go_num, rfl, R, hb2⟩
          case measure => simp [intOf]; omega
        · obtain rfl : m = a0.size := by omega
          rw [mid_end] at hown
          have hcv : (convert 28 9 (.slice (some ⟨w.heap.size, 0, none⟩) (a0.size + 1) (a0.size + 1))).run Try.prog wr = .ok (.string ⟨(ins a0.data.toList k c).toArray⟩) wr := by
            have h := run_convert_bytes_back (P := Try.prog) wr 28 9 5 ⟨w.heap.size, 0, none⟩ (a0.size + 1) (ins a0.data.toList k c) Try.underlying28 Try.underlying5 Try.underlying9
              (fun j hj => hown.cells rfl j _ (cellsOf_at _ j hj))
            rw [ins_length a0 k c (by omega)] at h
            exact h
          have hl := law a0 k c
          have hk : a0.toList.isEmpty = true → adS a0 = false := by intro hx; unfold adS adB; rw [← ByteArray.toList_eq, hx]; rfl
          generalize (⟨(ins a0.data.toList k c).toArray⟩ : ByteArray) = tt at hcv hl
          have HL := hide (And.intro hl hk)
          clear hl hk hown
          go_wp2_with fail
          refine (zzAllDigits_any a0 _).mono ?_
          rintro e wa ⟨rfl, hba⟩
          go_wp2_with fail
          refine (zzAllDigits_any tt _).mono ?_
          rintro e wb ⟨rfl, hbb⟩
          go_wp2_with fail
          refine (byBytes_any a0 _ w0).mono ?_
          rintro e wc ⟨rfl, rfl⟩
          have hB : Below w.heap.size w wc := hnx.trans ((hba.mono hnx.size).trans (hbb.mono (Nat.le_trans hnx.size hba.size)))
          clear hnx hba hbb hcv
          obtain ⟨l1, l2⟩ := unhide HL
          clear HL
          by_cases q1 : 48 ≤ (c.toNat : Int)
          · by_cases q2 : (c.toNat : Int) ≤ 57
            · rw [isD_of (by omega)] at l1
              cases e1 : a0.toList.isEmpty <;> cases e2 : adS a0 <;> (simp only [e1, e2] at l1 l2; simp at l1 l2)
              all_goals
                go_wp2
                go_ret
                exact ⟨rfl, hB⟩
            · rw [isD_not (by omega)] at l1
              simp at l1
              cases e2 : adS a0
              all_goals
                go_wp2
                go_ret
                exact ⟨rfl, hB⟩
          · rw [isD_not (by omega)] at l1
            simp at l1
            cases e2 : adS a0
            all_goals
              go_wp2
              go_ret
              exact ⟨rfl, hB⟩
end Go.Proofs.Qxb6619613a.fnAllDigitsInsertByte
