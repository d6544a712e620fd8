/-
  No cell of these rows narrows 'for every input' (looked for: loops, veiled, ifaces, maps, wideKeys, modest, calm, conditions, laid).
  DERIVED. THE GIVEN ROWS OF THIS SEAT. 5 by the template 'for every input the law returns true; each argument reads behind the call as it read before'; 0 by the template 'total and deterministic' (their statements: Qxb6619613aTotals.lean).
  GIVEN WITH THE SEED: the statements are not yours to turn. If you find one false, say at which input.
  Laid BY PROGRAM, IN A SANDBOX (cutbox-rows.mjs): the forced cells as the released guide's own fill.sh prints them over the translation 45a377b2aa723fef… (all of the seat's roots in one cut). By AI agents, Wed Nov 11 2026. No macro, syntax, notation, axiom, sorry.
-/
import Derived.Test.Qxb6619613aChecked
import GoSem.Claim
import GoSem.ClaimJoined
import GoSem.ClaimMapViews
import Derived.JoinedTies
import Derived.KernelRfl
namespace Go.Proofs.Qxb6619613a
/- THE CELL 'sum', in the pinned program and in every row, IS THE sha256 OF THE DUMP (.gsa) THAT Qxb6619613aProg.lean LOADS. Nothing in Lean hashes anything: it is a label: what it is worth is what the hold of that sum in a sandbox is worth. -/
noncomputable def Try.pinned : Pinned := { name := "qxb6619613a", sum := "45a377b2aa723fefaebdbf111c57a492cf4907dfef103a4b5282bdfd8283f088", checked := Try.checked }
namespace Rows
def none {H : Type} : Left H := { results := [], args := [] }

/-- 'zzlaws_internal_decimal_b1.FnQuoFloorAndHalfAwayExact': WHATEVER THE INPUT: true; the input reads as it did. -/
def fnQuoFloorAndHalfAwayExactSpec : ChangeSpec := { name := "fnQuoFloorAndHalfAwayExact", fn := fun _ => fun
  | [d1, d2] => { results := [.lit (.bool true)], args := [d1, d2] }
  | _ => none }
def fnQuoFloorAndHalfAwayExactRow : OpenClaim := { program := "qxb6619613a", sum := "45a377b2aa723fefaebdbf111c57a492cf4907dfef103a4b5282bdfd8283f088", func := "example.com/taelbook/taelbook/zzlaws_internal_decimal_b1.FnQuoFloorAndHalfAwayExact", spec := "fnQuoFloorAndHalfAwayExact", apart := false }
def FnQuoFloorAndHalfAwayExactSaid : Prop := fnQuoFloorAndHalfAwayExactRow.holds Try.pinned (OpenSpec.ofChange fnQuoFloorAndHalfAwayExactSpec)

/-- ITS FALSE NEIGHBOUR: 'it returns false'. Refute it at one input. -/
def fnQuoFloorAndHalfAwayExactWrong : ChangeSpec := { name := "fnQuoFloorAndHalfAwayExact", fn := fun _ => fun
  | [d1, d2] => { results := [.lit (.bool false)], args := [d1, d2] }
  | _ => none }
def FnQuoFloorAndHalfAwayExactWrongFalsely : Prop := fnQuoFloorAndHalfAwayExactRow.holds Try.pinned (OpenSpec.ofChange fnQuoFloorAndHalfAwayExactWrong)

/-- 'zzlaws_internal_decimal_b1.FnQuoFloor64ShiftAndSign': WHATEVER THE INPUT: true; the input reads as it did. -/
def fnQuoFloor64ShiftAndSignSpec : ChangeSpec := { name := "fnQuoFloor64ShiftAndSign", fn := fun _ => fun
  | [d1, d2] => { results := [.lit (.bool true)], args := [d1, d2] }
  | _ => none }
def fnQuoFloor64ShiftAndSignRow : OpenClaim := { program := "qxb6619613a", sum := "45a377b2aa723fefaebdbf111c57a492cf4907dfef103a4b5282bdfd8283f088", func := "example.com/taelbook/taelbook/zzlaws_internal_decimal_b1.FnQuoFloor64ShiftAndSign", spec := "fnQuoFloor64ShiftAndSign", apart := false }
def FnQuoFloor64ShiftAndSignSaid : Prop := fnQuoFloor64ShiftAndSignRow.holds Try.pinned (OpenSpec.ofChange fnQuoFloor64ShiftAndSignSpec)

/-- ITS FALSE NEIGHBOUR: 'it returns false'. Refute it at one input. -/
def fnQuoFloor64ShiftAndSignWrong : ChangeSpec := { name := "fnQuoFloor64ShiftAndSign", fn := fun _ => fun
  | [d1, d2] => { results := [.lit (.bool false)], args := [d1, d2] }
  | _ => none }
def FnQuoFloor64ShiftAndSignWrongFalsely : Prop := fnQuoFloor64ShiftAndSignRow.holds Try.pinned (OpenSpec.ofChange fnQuoFloor64ShiftAndSignWrong)

/-- 'zzlaws_internal_decimal_b1.FnQuoHalfAway64OddInSigns': WHATEVER THE INPUT: true; the input reads as it did. -/
def fnQuoHalfAway64OddInSignsSpec : ChangeSpec := { name := "fnQuoHalfAway64OddInSigns", fn := fun _ => fun
  | [d1, d2] => { results := [.lit (.bool true)], args := [d1, d2] }
  | _ => none }
def fnQuoHalfAway64OddInSignsRow : OpenClaim := { program := "qxb6619613a", sum := "45a377b2aa723fefaebdbf111c57a492cf4907dfef103a4b5282bdfd8283f088", func := "example.com/taelbook/taelbook/zzlaws_internal_decimal_b1.FnQuoHalfAway64OddInSigns", spec := "fnQuoHalfAway64OddInSigns", apart := false }
def FnQuoHalfAway64OddInSignsSaid : Prop := fnQuoHalfAway64OddInSignsRow.holds Try.pinned (OpenSpec.ofChange fnQuoHalfAway64OddInSignsSpec)

/-- ITS FALSE NEIGHBOUR: 'it returns false'. Refute it at one input. -/
def fnQuoHalfAway64OddInSignsWrong : ChangeSpec := { name := "fnQuoHalfAway64OddInSigns", fn := fun _ => fun
  | [d1, d2] => { results := [.lit (.bool false)], args := [d1, d2] }
  | _ => none }
def FnQuoHalfAway64OddInSignsWrongFalsely : Prop := fnQuoHalfAway64OddInSignsRow.holds Try.pinned (OpenSpec.ofChange fnQuoHalfAway64OddInSignsWrong)

/-- 'zzlaws_internal_decimal_b1.FnAllDigitsCutAnywhere': WHATEVER THE INPUT: true; the input reads as it did. -/
def fnAllDigitsCutAnywhereSpec : ChangeSpec := { name := "fnAllDigitsCutAnywhere", fn := fun _ => fun
  | [d1, d2] => { results := [.lit (.bool true)], args := [d1, d2] }
  | _ => none }
def fnAllDigitsCutAnywhereRow : OpenClaim := { program := "qxb6619613a", sum := "45a377b2aa723fefaebdbf111c57a492cf4907dfef103a4b5282bdfd8283f088", func := "example.com/taelbook/taelbook/zzlaws_internal_decimal_b1.FnAllDigitsCutAnywhere", spec := "fnAllDigitsCutAnywhere", apart := false }
def FnAllDigitsCutAnywhereSaid : Prop := fnAllDigitsCutAnywhereRow.holds Try.pinned (OpenSpec.ofChange fnAllDigitsCutAnywhereSpec)

/-- ITS FALSE NEIGHBOUR: 'it returns false'. Refute it at one input. -/
def fnAllDigitsCutAnywhereWrong : ChangeSpec := { name := "fnAllDigitsCutAnywhere", fn := fun _ => fun
  | [d1, d2] => { results := [.lit (.bool false)], args := [d1, d2] }
  | _ => none }
def FnAllDigitsCutAnywhereWrongFalsely : Prop := fnAllDigitsCutAnywhereRow.holds Try.pinned (OpenSpec.ofChange fnAllDigitsCutAnywhereWrong)

/-- 'zzlaws_internal_decimal_b1.FnAllDigitsInsertByte': WHATEVER THE INPUT: true; the input reads as it did. -/
def fnAllDigitsInsertByteSpec : ChangeSpec := { name := "fnAllDigitsInsertByte", fn := fun _ => fun
  | [d1, d2, d3] => { results := [.lit (.bool true)], args := [d1, d2, d3] }
  | _ => none }
def fnAllDigitsInsertByteRow : OpenClaim := { program := "qxb6619613a", sum := "45a377b2aa723fefaebdbf111c57a492cf4907dfef103a4b5282bdfd8283f088", func := "example.com/taelbook/taelbook/zzlaws_internal_decimal_b1.FnAllDigitsInsertByte", spec := "fnAllDigitsInsertByte", apart := false }
def FnAllDigitsInsertByteSaid : Prop := fnAllDigitsInsertByteRow.holds Try.pinned (OpenSpec.ofChange fnAllDigitsInsertByteSpec)

/-- ITS FALSE NEIGHBOUR: 'it returns false'. Refute it at one input. -/
def fnAllDigitsInsertByteWrong : ChangeSpec := { name := "fnAllDigitsInsertByte", fn := fun _ => fun
  | [d1, d2, d3] => { results := [.lit (.bool false)], args := [d1, d2, d3] }
  | _ => none }
def FnAllDigitsInsertByteWrongFalsely : Prop := fnAllDigitsInsertByteRow.holds Try.pinned (OpenSpec.ofChange fnAllDigitsInsertByteWrong)

end Rows
end Go.Proofs.Qxb6619613a
