/-
  No cell of these rows narrows 'for every input' (looked for: loops, veiled, ifaces, maps, wideKeys, modest, calm, conditions, laid).
  DERIVED. THE GIVEN ROWS OF THIS SEAT. 1 by the template 'for every input the law returns true; each argument reads behind the call as it read before'; 0 by the template 'total and deterministic' (their statements: Qxb6623369aTotals.lean).
  GIVEN WITH THE SEED: the statements are not yours to turn. If you find one false, say at which input.
  Laid BY PROGRAM, IN A SANDBOX (cutbox-rows.mjs): the forced cells as the released guide's own fill.sh prints them over the translation 18fdf56d50aea102… (all of the seat's roots in one cut). By AI agents, Wed Nov 11 2026. No macro, syntax, notation, axiom, sorry.
-/
import Derived.Test.Qxb6623369aChecked
import GoSem.Claim
import GoSem.ClaimJoined
import GoSem.ClaimMapViews
import Derived.JoinedTies
import Derived.KernelRfl
namespace Go.Proofs.Qxb6623369a
/- THE CELL 'sum', in the pinned program and in every row, IS THE sha256 OF THE DUMP (.gsa) THAT Qxb6623369aProg.lean LOADS. Nothing in Lean hashes anything: it is a label: what it is worth is what the hold of that sum in a sandbox is worth. -/
noncomputable def Try.pinned : Pinned := { name := "qxb6623369a", sum := "18fdf56d50aea102bffe2c0d16260fca68cf1c9c531e30dbba7a50b0dcc23c00", checked := Try.checked }
namespace Rows
def none {H : Type} : Left H := { results := [], args := [] }

/-- 'zzlaws_root_b1.FnLeaderIsFirstSubjectNotDecidedNo': WHATEVER THE INPUT: true; the input reads as it did. -/
def fnLeaderIsFirstSubjectNotDecidedNoSpec : ChangeSpec := { name := "fnLeaderIsFirstSubjectNotDecidedNo", fn := fun _ => fun
  | [d1, d2, d3] => { results := [.lit (.bool true)], args := [d1, d2, d3] }
  | _ => none }
def fnLeaderIsFirstSubjectNotDecidedNoRow : OpenClaim := { program := "qxb6623369a", sum := "18fdf56d50aea102bffe2c0d16260fca68cf1c9c531e30dbba7a50b0dcc23c00", func := "example.com/quorumweave/quorumweave/zzlaws_root_b1.FnLeaderIsFirstSubjectNotDecidedNo", spec := "fnLeaderIsFirstSubjectNotDecidedNo", apart := false }
def FnLeaderIsFirstSubjectNotDecidedNoSaid : Prop := fnLeaderIsFirstSubjectNotDecidedNoRow.holds Try.pinned (OpenSpec.ofChange fnLeaderIsFirstSubjectNotDecidedNoSpec)

/-- ITS FALSE NEIGHBOUR: 'it returns false'. Refute it at one input. -/
def fnLeaderIsFirstSubjectNotDecidedNoWrong : ChangeSpec := { name := "fnLeaderIsFirstSubjectNotDecidedNo", fn := fun _ => fun
  | [d1, d2, d3] => { results := [.lit (.bool false)], args := [d1, d2, d3] }
  | _ => none }
def FnLeaderIsFirstSubjectNotDecidedNoWrongFalsely : Prop := fnLeaderIsFirstSubjectNotDecidedNoRow.holds Try.pinned (OpenSpec.ofChange fnLeaderIsFirstSubjectNotDecidedNoWrong)

end Rows
end Go.Proofs.Qxb6623369a
