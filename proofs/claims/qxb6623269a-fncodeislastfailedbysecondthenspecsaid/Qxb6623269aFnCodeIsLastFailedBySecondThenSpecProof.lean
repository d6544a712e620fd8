/- FnCodeIsLastFailedBySecondThenSpec: the walk whole, and the row's step (the frame: the guide's template, turned to a slice of structs). -/
import Derived.Test.Qxb6623269aRows
import Derived.Test.Qxb6623269aOpen
import Derived.WalkKit
import Derived.ProofKit
import Derived.OpenShut
import Derived.Carry
namespace Go.Proofs.Qxb6623269a.fnCodeIsLastFailedBySecondThenSpec
open Go.ChangeShapes Go.WideShapes Go.ChangeAt Go.RowKit
set_option linter.unusedVariables false

theorem own : ownKnob Try.prog.godebug = none := by kernel_rfl
theorem laidOut : laidOutB Try.prog = true := by kernel_rfl

theorem walk (a : Addr) (len cap : Nat) (ex sc nn : Nat → Int) (w : World) (hl : len ≤ cap) (hm : cap ≤ maxLen)
    (hE : ∀ i, i < len → w.cell? (a.add (i * 3)) = some (.int .i32 (ex i)) ∧ w.cell? (a.add (i * 3 + 1)) = some (.int .u32 (sc i)) ∧ w.cell? (a.add (i * 3 + 2)) = some (.int .u32 (nn i)) ∧
        (Lit.int .i32 (ex i)).wf = true ∧ (Lit.int .u32 (sc i)).wf = true ∧ (Lit.int .u32 (nn i)).wf = true) :
    Calls Try.prog 3 #[.slice (some a) len cap] w fun e w' => e = .returned (.bool true) ∧ Below w.heap.size w w' := by
  by_cases hb : 65536 < (len : Int)
  · exact longer _ _ _ _ (Nat.le_trans hl hm) hb
  · obtain ⟨b, off, spot⟩ := a
    have hsp : 0 < len → spot = none := fun h => by simpa [Addr.add] using World.cell?_spot (hE 0 h).1
    refine big ⟨b, off, spot⟩ b off len cap ex sc nn w (by omega) (fun h => ?_) (fun j hj => ?_) (fun j hj => bounds_i32 (hE j hj).2.2.2.1) (fun j hj => ?_) (fun j hj => ?_)
    · have hs := hsp h
      subst hs
      have hc := (hE 0 h).1
      rw [Addr.add_lit] at hc
      refine ⟨rfl, ?_⟩
      rcases Nat.lt_or_ge b w.heap.size with h' | h'
      · exact h'
      · simp [World.cell?, Array.getElem?_eq_none h'] at hc
    · have hs := hsp (by omega)
      subst hs
      obtain ⟨h1, h2, h3, _⟩ := hE j hj
      rw [Addr.add_lit] at h1 h2 h3
      exact ⟨h1, h2, h3⟩
    · have := bounds_u32 (hE j hj).2.2.2.2.1; omega
    · have := bounds_u32 (hE j hj).2.2.2.2.2; omega

set_option maxRecDepth 100000 in
theorem lifted (os : Os) (started : os.Started) (H : Type) (enc : TypeId × Value → H) :
    ReturnsInHanded {} Try.checked os 3 .any (Rows.fnCodeIsLastFailedBySecondThenSpecSpec.pre6 enc Try.prog Try.f3 Rows.fnCodeIsLastFailedBySecondThenSpecRow.domain false) (Rows.fnCodeIsLastFailedBySecondThenSpecSpec.post enc Try.prog Try.f3 false true false false) := by
  refine returnsInHanded_of_change (C := Try.checked) own started (by kernel_rfl) Try.func3
    (ChangeSpec.witness6 (enc := enc) (C := Try.checked) false ⟨#[], #[.slice none 0 0], []⟩ 8 (by kernel_rfl) (by kernel_rfl) (by kernel_rfl) (by kernel_rfl)) ?_
  intro W base args ds gs before hval0 hW hcnd _
  have hval : ∀ (j : Nat) t v, Try.f3.params[j]? = some t → args[j]? = some v → Value.okWide Try.prog W .any base t v := hval0
  have hW' := hW
  obtain ⟨p, q, hA0, hV, rfl, hfz, hnd⟩ := hW
  have hA : DataW.TrodAll enc Try.prog W 0 (fun _ => true) true Try.f3.params.toList args.toList ds p := hA0
  rw [Try.params3] at hA hval
  obtain ⟨v0, vs0, d0, ds0, p0, q0, hargs, rfl, rfl, h0, r0⟩ := trodAll_cons hA
  obtain ⟨rfl, rfl, rfl⟩ := trodAll_nil r0
  obtain rfl : args = #[v0] := by cases args; simp_all
  obtain ⟨rfl, rfl⟩ := trodVars_none hV
  obtain ⟨a0, len0, cap0, rfl⟩ := okWide_slice Try.underlying22 (hval 0 22 v0 rfl rfl)
  have k0 := h0
  have lt0 : ∀ x ∈ p0, x.block < W.heap.size := by obtain ⟨m, hm⟩ := k0; exact DataW.trod_lt m _ _ _ hm
  have hw : Calls Try.prog 3 #[.slice a0 len0 cap0] W fun e w' => e = .returned (.bool true) ∧ Below W.heap.size W w' := by
    obtain ⟨fuel, hf⟩ := h0
    rcases open_ends hf with hcs | ⟨x, l, c, ex, sc, nn, hcs, hl, hm, hE⟩
    · simp [Value.cells] at hcs
      obtain ⟨rfl, rfl, rfl⟩ := hcs
      exact bigNil W
    · simp [Value.cells] at hcs
      obtain ⟨rfl, rfl, rfl⟩ := hcs
      exact walk x _ _ ex sc nn W hl hm hE
  clear hA0 hval0
  refine hw.mono fun e W' ⟨he, bel⟩ => ?_
  subst he
  exact ⟨_, rfl, _, _, _, [], _, [], hW', trodAll_mk1 (shut_bool Try.underlying4 _), (trodAll_cons_mk (Below.trod laidOut (by kernel_rfl) (of_decide_eq_true (by kernel_rfl)) k0 bel lt0) trodAll_mk0), rfl, bel.frame _, fun h => by cases h⟩

theorem over : Rows.fnCodeIsLastFailedBySecondThenSpecRow.holds Try.pinned (OpenSpec.ofChange Rows.fnCodeIsLastFailedBySecondThenSpecSpec) :=
  OpenClaim.holds_of_wide 3 Try.f3 rfl rfl rfl rfl rfl rfl rfl ⟨rfl, rfl, rfl, rfl, rfl⟩ rfl rfl rfl rfl rfl (by kernel_rfl) Try.func3 (by kernel_rfl)
    (of_decide_eq_true (by kernel_rfl)) (by unfold Func.isWrapper; first | (rw [if_pos (by decide +kernel)]; kernel_rfl) | (rw [if_neg (by decide +kernel)]; exact ⟨rfl, rfl⟩))
    (fun os started H enc _ => lifted os started H enc)

theorem proved : Rows.FnCodeIsLastFailedBySecondThenSpecSaid :=
  over
#print axioms proved
end Go.Proofs.Qxb6623269a.fnCodeIsLastFailedBySecondThenSpec
