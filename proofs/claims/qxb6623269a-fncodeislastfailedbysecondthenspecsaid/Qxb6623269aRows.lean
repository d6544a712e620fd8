/-
  No cell of these rows narrows 'for every input' (looked for: loops, veiled, ifaces, maps, wideKeys, modest, calm, conditions, laid).
  DERIVED. THE GIVEN ROWS OF THIS SEAT. 1 by the template 'for every input the law returns true; each argument reads behind the call as it read before'; 0 by the template 'total and deterministic' (their statements: Qxb6623269aTotals.lean).
  GIVEN WITH THE SEED: the statements are not yours to turn. If you find one false, say at which input.
  Laid BY PROGRAM, IN A SANDBOX (cutbox-rows.mjs): the forced cells as the released guide's own fill.sh prints them over the translation 778ecbfce9af9eb9… (all of the seat's roots in one cut). By AI agents, Wed Nov 11 2026. No macro, syntax, notation, axiom, sorry.
-/
import Derived.Test.Qxb6623269aChecked
import GoSem.Claim
import GoSem.ClaimJoined
import GoSem.ClaimMapViews
import Derived.JoinedTies
import Derived.KernelRfl
namespace Go.Proofs.Qxb6623269a
/- THE CELL 'sum', in the pinned program and in every row, IS THE sha256 OF THE DUMP (.gsa) THAT Qxb6623269aProg.lean LOADS. Nothing in Lean hashes anything: it is a label: what it is worth is what the hold of that sum in a sandbox is worth. -/
noncomputable def Try.pinned : Pinned := { name := "qxb6623269a", sum := "778ecbfce9af9eb9edd249b58d67867cc46cf908cbcb755475a08368f73108e4", checked := Try.checked }
namespace Rows
def none {H : Type} : Left H := { results := [], args := [] }

/-- 'zzlaws_internal_podexit_b1.FnCodeIsLastFailedBySecondThenSpec': WHATEVER THE INPUT: true; the input reads as it did. -/
def fnCodeIsLastFailedBySecondThenSpecSpec : ChangeSpec := { name := "fnCodeIsLastFailedBySecondThenSpec", fn := fun _ => fun
  | [d] => { results := [.lit (.bool true)], args := [d] }
  | _ => none }
def fnCodeIsLastFailedBySecondThenSpecRow : OpenClaim := { program := "qxb6623269a", sum := "778ecbfce9af9eb9edd249b58d67867cc46cf908cbcb755475a08368f73108e4", func := "example.com/muster/muster/zzlaws_internal_podexit_b1.FnCodeIsLastFailedBySecondThenSpec", spec := "fnCodeIsLastFailedBySecondThenSpec", apart := false }
def FnCodeIsLastFailedBySecondThenSpecSaid : Prop := fnCodeIsLastFailedBySecondThenSpecRow.holds Try.pinned (OpenSpec.ofChange fnCodeIsLastFailedBySecondThenSpecSpec)

/-- ITS FALSE NEIGHBOUR: 'it returns false'. Refute it at one input. -/
def fnCodeIsLastFailedBySecondThenSpecWrong : ChangeSpec := { name := "fnCodeIsLastFailedBySecondThenSpec", fn := fun _ => fun
  | [d] => { results := [.lit (.bool false)], args := [d] }
  | _ => none }
def FnCodeIsLastFailedBySecondThenSpecWrongFalsely : Prop := fnCodeIsLastFailedBySecondThenSpecRow.holds Try.pinned (OpenSpec.ofChange fnCodeIsLastFailedBySecondThenSpecWrong)

end Rows
end Go.Proofs.Qxb6623269a
