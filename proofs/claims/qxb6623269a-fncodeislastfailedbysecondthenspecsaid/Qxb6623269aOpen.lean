/- The slice of ends that came in, opened: its cells. -/
import Derived.Test.Qxb6623269aMain
import Derived.Deep.Slices
namespace Go.Proofs.Qxb6623269a
open Go.ChangeShapes Go.WideShapes Go.RowKit Go.Deep
set_option linter.unusedVariables false

theorem cells27 : Try.prog.cellsOf 27 = 3 := by kernel_rfl
theorem cells21 : Try.prog.cellsOf 21 = 1 := by kernel_rfl
theorem cells25 : Try.prog.cellsOf 25 = 1 := by kernel_rfl


theorem open_ends {H : Type} {enc : TypeId × Value → H} {w : World} {base : Nat} {spare : Nat → Bool} {held : Bool} {fuel : Nat} {cs : List Value} {x : DataW H × List MemPlace}
    (h : DataW.trod enc Try.prog w base spare held fuel 22 cs = some x) :
    cs = [.slice none 0 0] ∨ ∃ (a : Addr) (len cap : Nat) (ex sc nn : Nat → Int), cs = [.slice (some a) len cap] ∧ len ≤ cap ∧ cap ≤ maxLen ∧
      ∀ i, i < len → w.cell? (a.add (i * 3)) = some (.int .i32 (ex i)) ∧ w.cell? (a.add (i * 3 + 1)) = some (.int .u32 (sc i)) ∧ w.cell? (a.add (i * 3 + 2)) = some (.int .u32 (nn i)) ∧
        (Lit.int .i32 (ex i)).wf = true ∧ (Lit.int .u32 (sc i)).wf = true ∧ (Lit.int .u32 (nn i)).wf = true := by
  rcases open_slice Try.underlying22 h with ⟨h0, _⟩ | ⟨a, len, cap, m, n, D, Pl, rfl, hb, hl, hm, hmm, rfl, hx⟩
  · exact Or.inl h0
  right
  have hlm : len ≤ m := by rw [hmm]; split <;> omega
  have each : ∀ i, i < len → ∃ q : Int × Int × Int, w.cell? (a.add (i * 3)) = some (.int .i32 q.1) ∧ w.cell? (a.add (i * 3 + 1)) = some (.int .u32 q.2.1) ∧ w.cell? (a.add (i * 3 + 2)) = some (.int .u32 q.2.2) ∧
      (Lit.int .i32 q.1).wf = true ∧ (Lit.int .u32 q.2.1).wf = true ∧ (Lit.int .u32 q.2.2).wf = true := by
    intro i hi
    obtain ⟨cs', h1, h2⟩ := hx i (by omega)
    rw [cells27] at h1
    obtain ⟨_, hlen, hcell⟩ := World.cells?_some h1
    obtain ⟨xs, k, hk, hxy, _, hxl, hf⟩ := DataW.trod_struct Try.underlying27 h2
    match xs, hxl, cs', hlen with
    | [y0, y1, y2], _, [v0, v1, v2], _ =>
      have g0 := hf 0 _ rfl
      have g1 := hf 1 _ rfl
      have g2 := hf 2 _ rfl
      simp [cells21, cells25] at g0 g1 g2
      have e0 := hcell 0 (by omega)
      have e1 := hcell 1 (by omega)
      have e2 := hcell 2 (by omega)
      rw [add_add] at e0 e1 e2
      obtain ⟨p0, r0, _, w0⟩ := DataW.trod_int Try.underlying21 g0
      obtain ⟨p1, r1, _, w1⟩ := DataW.trod_int Try.underlying25 g1
      obtain ⟨p2, r2, _, w2⟩ := DataW.trod_int Try.underlying25 g2
      simp at r0 r1 r2
      subst r0; subst r1; subst r2
      exact ⟨(p0, p1, p2), by simpa using e0, by simpa using e1, by simpa using e2, w0, w1, w2⟩
  obtain ⟨q, hq⟩ := choose_lt each
  exact ⟨a, len, cap, fun i => (q i).1, fun i => (q i).2.1, fun i => (q i).2.2, rfl, hl, hm, hq⟩
end Go.Proofs.Qxb6623269a
