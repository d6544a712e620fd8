/-
  No cell of these rows narrows 'for every input' (looked for: loops, veiled, ifaces, maps, wideKeys, modest, calm, conditions, laid).
  DERIVED. THE GIVEN ROWS OF THIS SEAT. 1 by the template 'for every input the law returns true; each argument reads behind the call as it read before'; 0 by the template 'total and deterministic' (their statements: Qxb6623304aTotals.lean).
  GIVEN WITH THE SEED: the statements are not yours to turn. If you find one false, say at which input.
  Laid BY PROGRAM, IN A SANDBOX (cutbox-rows.mjs): the forced cells as the released guide's own fill.sh prints them over the translation f18c956d03c7cc9f… (all of the seat's roots in one cut). By AI agents, Wed Nov 11 2026. No macro, syntax, notation, axiom, sorry.
-/
import Derived.Test.Qxb6623304aChecked
import GoSem.Claim
import GoSem.ClaimJoined
import GoSem.ClaimMapViews
import Derived.JoinedTies
import Derived.KernelRfl
namespace Go.Proofs.Qxb6623304a
/- THE CELL 'sum', in the pinned program and in every row, IS THE sha256 OF THE DUMP (.gsa) THAT Qxb6623304aProg.lean LOADS. Nothing in Lean hashes anything: it is a label: what it is worth is what the hold of that sum in a sandbox is worth. -/
noncomputable def Try.pinned : Pinned := { name := "qxb6623304a", sum := "f18c956d03c7cc9f685dcd4aeb80b6f44e28e77b1f98a66ef1a934bebe066a54", checked := Try.checked }
namespace Rows
def none {H : Type} : Left H := { results := [], args := [] }

/-- 'zzlaws_internal_kv_b1.FnSameEntryTellsEveryChange': WHATEVER THE INPUT: true; the input reads as it did. -/
def fnSameEntryTellsEveryChangeSpec : ChangeSpec := { name := "fnSameEntryTellsEveryChange", fn := fun _ => fun
  | [d1, d2, d3, d4, d5, d6] => { results := [.lit (.bool true)], args := [d1, d2, d3, d4, d5, d6] }
  | _ => none }
def fnSameEntryTellsEveryChangeRow : OpenClaim := { program := "qxb6623304a", sum := "f18c956d03c7cc9f685dcd4aeb80b6f44e28e77b1f98a66ef1a934bebe066a54", func := "example.com/quorate/quorate/zzlaws_internal_kv_b1.FnSameEntryTellsEveryChange", spec := "fnSameEntryTellsEveryChange", apart := false }
def FnSameEntryTellsEveryChangeSaid : Prop := fnSameEntryTellsEveryChangeRow.holds Try.pinned (OpenSpec.ofChange fnSameEntryTellsEveryChangeSpec)

/-- ITS FALSE NEIGHBOUR: 'it returns false'. Refute it at one input. -/
def fnSameEntryTellsEveryChangeWrong : ChangeSpec := { name := "fnSameEntryTellsEveryChange", fn := fun _ => fun
  | [d1, d2, d3, d4, d5, d6] => { results := [.lit (.bool false)], args := [d1, d2, d3, d4, d5, d6] }
  | _ => none }
def FnSameEntryTellsEveryChangeWrongFalsely : Prop := fnSameEntryTellsEveryChangeRow.holds Try.pinned (OpenSpec.ofChange fnSameEntryTellsEveryChangeWrong)

end Rows
end Go.Proofs.Qxb6623304a
