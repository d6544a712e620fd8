/- FnAllDigitsCutAnywhere: the walk. -/
import Derived.Test.Qxb6619613aDig
namespace Go.Proofs.Qxb6619613a.fnAllDigitsCutAnywhere
open Go.RowKit
set_option linter.unusedVariables false

theorem law (l : List UInt8) (i : Nat) : adB l = (((l.take i).isEmpty || adB (l.take i)) && ((l.drop i).isEmpty || adB (l.drop i)) && !l.isEmpty) := by
  have h : l.all isD = ((l.take i).all isD && (l.drop i).all isD) := by rw [← List.all_append, List.take_append_drop]
  have e1 : ∀ x : List UInt8, (x.isEmpty || adB x) = x.all isD := by intro x; cases x <;> simp [adB]
  rw [e1, e1, ← h]; unfold adB; exact Bool.and_comm _ _
theorem ext_take (s : ByteArray) (i : Nat) (h : i ≤ s.size) : (s.extract 0 i).data.toList = s.data.toList.take i := by
  simp [ByteArray.data_extract]
theorem ext_drop (s : ByteArray) (i : Nat) (h : i ≤ s.size) : (s.extract i s.size).data.toList = s.data.toList.drop i := by
  simp only [ByteArray.data_extract, Array.toList_extract, List.extract_eq_take_drop]
  exact List.take_of_length_le (by simp)
theorem lawS (s a b : ByteArray) (i : Nat) (h : i ≤ s.size) (ha : a = s.extract 0 i) (hb : b = s.extract i s.size) :
    adS s = ((a.toList.isEmpty || adS a) && (b.toList.isEmpty || adS b) && !s.toList.isEmpty) ∧ (a.toList.isEmpty = true → adS a = false) ∧ (b.toList.isEmpty = true → adS b = false) := by
  have hk : ∀ x : ByteArray, x.toList.isEmpty = true → adS x = false := by intro x hx; unfold adS adB; rw [← ByteArray.toList_eq, hx]; rfl
  refine ⟨?_, hk a, hk b⟩
  have hl := law s.data.toList i
  subst ha; subst hb
  unfold adS
  simp only [ByteArray.toList_eq]
  rw [ext_take s i h, ext_drop s i h]
  exact hl

set_option maxHeartbeats 800000 in
theorem walk (a0 : ByteArray) (a1 : Int) (w0 : a0.size ≤ maxLen) (w1 : (Lit.int .i64 a1).wf = true) (w : World) :
    Calls Try.prog 6 #[.string a0, .int .i64 a1] w fun e w' => e = .returned (.bool true) ∧ Below w.heap.size w w' := by
  have w0' := w0
  unfold maxLen at w0'
  by_cases h1 : 1048576 < (a0.size : Int)
  · have hd : decide ((a0.size : Int) ≤ 1048576) = false := decide_eq_false (by omega)
    go_enter Try.func6, Try.ntmps6
    go_wp2_with (go_at_call 12; refine (bytesCut_any a0 a1 _ w0).mono ?_; rintro e w' ⟨rfl, rfl⟩)
    go_ret
    exact ⟨rfl, Below.refl _ _⟩
  have hd : decide ((a0.size : Int) ≤ 1048576) = true := decide_eq_true (by omega)
  by_cases h2 : 65536 < (a0.size : Int)
  · go_enter Try.func6, Try.ntmps6
    go_wp2_with (go_at_call 12; refine (bytesCut_any a0 a1 _ w0).mono ?_; rintro e w' ⟨rfl, rfl⟩)
    go_ret
    exact ⟨rfl, Below.refl _ _⟩
  by_cases h3 : a1 < 0
  · go_enter Try.func6, Try.ntmps6
    go_wp2_with (go_at_call 12; refine (bytesCut_any a0 a1 _ w0).mono ?_; rintro e w' ⟨rfl, rfl⟩)
    go_ret
    exact ⟨rfl, Below.refl _ _⟩
  obtain ⟨i, rfl⟩ := Int.eq_ofNat_of_zero_le (show 0 ≤ a1 by omega)
  by_cases h4 : (a0.size : Int) < (i : Int)
  · go_enter Try.func6, Try.ntmps6
    go_wp2_with (go_at_call 12; refine (bytesCut_any a0 _ _ w0).mono ?_; rintro e w' ⟨rfl, rfl⟩)
    go_ret
    exact ⟨rfl, Below.refl _ _⟩
  go_enter Try.func6, Try.ntmps6
  go_wp2_with (go_at_call 12; refine (bytesCut_any a0 _ _ w0).mono ?_; rintro e w' ⟨rfl, rfl⟩)
  refine (zzAllDigits_any a0 _).mono ?_
  rintro e wa ⟨rfl, hba⟩
  generalize ha : a0.extract 0 i = a
  generalize hb : a0.extract i a0.size = b
  have hl := lawS a0 a b i (by omega) ha.symm hb.symm
  clear ha hb
  have HL := hide hl
  clear hl
  go_wp2_with fail
  refine (zzAllDigits_any a _).mono ?_
  rintro e wb ⟨rfl, hbb⟩
  go_wp2_with fail
  refine (zzAllDigits_any b _).mono ?_
  rintro e wc ⟨rfl, hbc⟩
  go_wp2_with fail
  refine (byBytes_any a0 _ w0).mono ?_
  rintro e wd ⟨rfl, rfl⟩
  have hB : Below w'.heap.size w' wd := hba.trans ((hbb.mono hba.size).trans (hbc.mono (Nat.le_trans hba.size hbb.size)))
  clear hba hbb hbc
  obtain ⟨l1, l2, l3⟩ := unhide HL
  clear HL
  cases e1 : a.toList.isEmpty <;> cases e2 : b.toList.isEmpty <;> cases e3 : a0.toList.isEmpty <;> cases e4 : adS a <;> cases e5 : adS b <;> (simp only [e1, e2, e3, e4, e5] at l1 l2 l3; simp at l1 l2 l3)
  all_goals
    go_wp2
    go_ret
    exact ⟨rfl, hB⟩
end Go.Proofs.Qxb6619613a.fnAllDigitsCutAnywhere
