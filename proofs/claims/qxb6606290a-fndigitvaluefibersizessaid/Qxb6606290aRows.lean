/-
  No cell of these rows narrows 'for every input' (looked for: loops, veiled, ifaces, maps, wideKeys, modest, calm, conditions, laid).
  DERIVED. THE GIVEN ROWS OF THIS SEAT. 3 by the template 'for every input the law returns true; each argument reads behind the call as it read before'; 0 by the template 'total and deterministic' (their statements: Qxb6606290aTotals.lean).
  GIVEN WITH THE SEED: the statements are not yours to turn. If you find one false, say at which input.
  Laid BY PROGRAM, IN A SANDBOX (cutbox-rows.mjs): the forced cells as the released guide's own fill.sh prints them over the translation f484b2ee42e9abbb… (all of the seat's roots in one cut). By AI agents, Wed Nov 11 2026. No macro, syntax, notation, axiom, sorry.
-/
import Derived.Test.Qxb6606290aChecked
import GoSem.Claim
import GoSem.ClaimJoined
import GoSem.ClaimMapViews
import Derived.JoinedTies
import Derived.KernelRfl
namespace Go.Proofs.Qxb6606290a
/- THE CELL 'sum', in the pinned program and in every row, IS THE sha256 OF THE DUMP (.gsa) THAT Qxb6606290aProg.lean LOADS. Nothing in Lean hashes anything: it is a label: what it is worth is what the hold of that sum in a sandbox is worth. -/
noncomputable def Try.pinned : Pinned := { name := "qxb6606290a", sum := "f484b2ee42e9abbb81a2f126c72d3575c6f424349bd96e8376e8e1d2b87e93ac", checked := Try.checked }
namespace Rows
def none {H : Type} : Left H := { results := [], args := [] }

/-- 'zzlaws_wellformed_b1.FnDigitValueMatchesHexTable': WHATEVER THE INPUT: true; the input reads as it did. -/
def fnDigitValueMatchesHexTableSpec : ChangeSpec := { name := "fnDigitValueMatchesHexTable", fn := fun _ => fun
  | [d] => { results := [.lit (.bool true)], args := [d] }
  | _ => none }
def fnDigitValueMatchesHexTableRow : OpenClaim := { program := "qxb6606290a", sum := "f484b2ee42e9abbb81a2f126c72d3575c6f424349bd96e8376e8e1d2b87e93ac", func := "example.com/sluicekeeper/sluicekeeper/zzlaws_wellformed_b1.FnDigitValueMatchesHexTable", spec := "fnDigitValueMatchesHexTable", apart := false }
def FnDigitValueMatchesHexTableSaid : Prop := fnDigitValueMatchesHexTableRow.holds Try.pinned (OpenSpec.ofChange fnDigitValueMatchesHexTableSpec)

/-- ITS FALSE NEIGHBOUR: 'it returns false'. Refute it at one input. -/
def fnDigitValueMatchesHexTableWrong : ChangeSpec := { name := "fnDigitValueMatchesHexTable", fn := fun _ => fun
  | [d] => { results := [.lit (.bool false)], args := [d] }
  | _ => none }
def FnDigitValueMatchesHexTableWrongFalsely : Prop := fnDigitValueMatchesHexTableRow.holds Try.pinned (OpenSpec.ofChange fnDigitValueMatchesHexTableWrong)

/-- 'zzlaws_wellformed_b1.FnDigitValueInvertsHexDigit': WHATEVER THE INPUT: true; the input reads as it did. -/
def fnDigitValueInvertsHexDigitSpec : ChangeSpec := { name := "fnDigitValueInvertsHexDigit", fn := fun _ => fun
  | [d1, d2] => { results := [.lit (.bool true)], args := [d1, d2] }
  | _ => none }
def fnDigitValueInvertsHexDigitRow : OpenClaim := { program := "qxb6606290a", sum := "f484b2ee42e9abbb81a2f126c72d3575c6f424349bd96e8376e8e1d2b87e93ac", func := "example.com/sluicekeeper/sluicekeeper/zzlaws_wellformed_b1.FnDigitValueInvertsHexDigit", spec := "fnDigitValueInvertsHexDigit", apart := false }
def FnDigitValueInvertsHexDigitSaid : Prop := fnDigitValueInvertsHexDigitRow.holds Try.pinned (OpenSpec.ofChange fnDigitValueInvertsHexDigitSpec)

/-- ITS FALSE NEIGHBOUR: 'it returns false'. Refute it at one input. -/
def fnDigitValueInvertsHexDigitWrong : ChangeSpec := { name := "fnDigitValueInvertsHexDigit", fn := fun _ => fun
  | [d1, d2] => { results := [.lit (.bool false)], args := [d1, d2] }
  | _ => none }
def FnDigitValueInvertsHexDigitWrongFalsely : Prop := fnDigitValueInvertsHexDigitRow.holds Try.pinned (OpenSpec.ofChange fnDigitValueInvertsHexDigitWrong)

/-- 'zzlaws_wellformed_b1.FnDigitValueFiberSizes': WHATEVER THE INPUT: true; the input reads as it did. -/
def fnDigitValueFiberSizesSpec : ChangeSpec := { name := "fnDigitValueFiberSizes", fn := fun _ => fun
  | [] => { results := [.lit (.bool true)], args := [] }
  | _ => none }
def fnDigitValueFiberSizesRow : OpenClaim := { program := "qxb6606290a", sum := "f484b2ee42e9abbb81a2f126c72d3575c6f424349bd96e8376e8e1d2b87e93ac", func := "example.com/sluicekeeper/sluicekeeper/zzlaws_wellformed_b1.FnDigitValueFiberSizes", spec := "fnDigitValueFiberSizes", apart := false }
def FnDigitValueFiberSizesSaid : Prop := fnDigitValueFiberSizesRow.holds Try.pinned (OpenSpec.ofChange fnDigitValueFiberSizesSpec)

/-- ITS FALSE NEIGHBOUR: 'it returns false'. Refute it at one input. -/
def fnDigitValueFiberSizesWrong : ChangeSpec := { name := "fnDigitValueFiberSizes", fn := fun _ => fun
  | [] => { results := [.lit (.bool false)], args := [] }
  | _ => none }
def FnDigitValueFiberSizesWrongFalsely : Prop := fnDigitValueFiberSizesRow.holds Try.pinned (OpenSpec.ofChange fnDigitValueFiberSizesWrong)

end Rows
end Go.Proofs.Qxb6606290a
