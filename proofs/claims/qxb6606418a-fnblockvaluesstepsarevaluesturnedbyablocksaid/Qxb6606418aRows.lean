/-
  No cell of these rows narrows 'for every input' (looked for: loops, veiled, ifaces, maps, wideKeys, modest, calm, conditions, laid).
  DERIVED. THE GIVEN ROWS OF THIS SEAT. 3 by the template 'for every input the law returns true; each argument reads behind the call as it read before'; 0 by the template 'total and deterministic' (their statements: Qxb6606418aTotals.lean).
  GIVEN WITH THE SEED: the statements are not yours to turn. If you find one false, say at which input.
  Laid BY PROGRAM, IN A SANDBOX (cutbox-rows.mjs): the forced cells as the released guide's own fill.sh prints them over the translation 853a049224c7ef01… (all of the seat's roots in one cut). By AI agents, Wed Nov 11 2026. No macro, syntax, notation, axiom, sorry.
-/
import Derived.Test.Qxb6606418aChecked
import GoSem.Claim
import GoSem.ClaimJoined
import GoSem.ClaimMapViews
import Derived.JoinedTies
import Derived.KernelRfl
namespace Go.Proofs.Qxb6606418a
/- THE CELL 'sum', in the pinned program and in every row, IS THE sha256 OF THE DUMP (.gsa) THAT Qxb6606418aProg.lean LOADS. Nothing in Lean hashes anything: it is a label: what it is worth is what the hold of that sum in a sandbox is worth. -/
noncomputable def Try.pinned : Pinned := { name := "qxb6606418a", sum := "853a049224c7ef01ea97a5a0eeecdfddf64d0076a680dc7610b7a46dcc1020c7", checked := Try.checked }
namespace Rows
def none {H : Type} : Left H := { results := [], args := [] }

/-- 'zzlaws_federation_b1.FnBlockValuesSlotTable': WHATEVER THE INPUT: true; the input reads as it did. -/
def fnBlockValuesSlotTableSpec : ChangeSpec := { name := "fnBlockValuesSlotTable", fn := fun _ => fun
  | [d1, d2, d3, d4, d5, d6, d7, d8] => { results := [.lit (.bool true)], args := [d1, d2, d3, d4, d5, d6, d7, d8] }
  | _ => none }
def fnBlockValuesSlotTableRow : OpenClaim := { program := "qxb6606418a", sum := "853a049224c7ef01ea97a5a0eeecdfddf64d0076a680dc7610b7a46dcc1020c7", func := "example.com/nox-train/nox-train/zzlaws_federation_b1.FnBlockValuesSlotTable", spec := "fnBlockValuesSlotTable", apart := false }
def FnBlockValuesSlotTableSaid : Prop := fnBlockValuesSlotTableRow.holds Try.pinned (OpenSpec.ofChange fnBlockValuesSlotTableSpec)

/-- ITS FALSE NEIGHBOUR: 'it returns false'. Refute it at one input. -/
def fnBlockValuesSlotTableWrong : ChangeSpec := { name := "fnBlockValuesSlotTable", fn := fun _ => fun
  | [d1, d2, d3, d4, d5, d6, d7, d8] => { results := [.lit (.bool false)], args := [d1, d2, d3, d4, d5, d6, d7, d8] }
  | _ => none }
def FnBlockValuesSlotTableWrongFalsely : Prop := fnBlockValuesSlotTableRow.holds Try.pinned (OpenSpec.ofChange fnBlockValuesSlotTableWrong)

/-- 'zzlaws_federation_b1.FnBlockValuesStepsAreValuesTurnedByABlock': WHATEVER THE INPUT: true; the input reads as it did. -/
def fnBlockValuesStepsAreValuesTurnedByABlockSpec : ChangeSpec := { name := "fnBlockValuesStepsAreValuesTurnedByABlock", fn := fun _ => fun
  | [d1, d2, d3, d4, d5, d6, d7] => { results := [.lit (.bool true)], args := [d1, d2, d3, d4, d5, d6, d7] }
  | _ => none }
def fnBlockValuesStepsAreValuesTurnedByABlockRow : OpenClaim := { program := "qxb6606418a", sum := "853a049224c7ef01ea97a5a0eeecdfddf64d0076a680dc7610b7a46dcc1020c7", func := "example.com/nox-train/nox-train/zzlaws_federation_b1.FnBlockValuesStepsAreValuesTurnedByABlock", spec := "fnBlockValuesStepsAreValuesTurnedByABlock", apart := false }
def FnBlockValuesStepsAreValuesTurnedByABlockSaid : Prop := fnBlockValuesStepsAreValuesTurnedByABlockRow.holds Try.pinned (OpenSpec.ofChange fnBlockValuesStepsAreValuesTurnedByABlockSpec)

/-- ITS FALSE NEIGHBOUR: 'it returns false'. Refute it at one input. -/
def fnBlockValuesStepsAreValuesTurnedByABlockWrong : ChangeSpec := { name := "fnBlockValuesStepsAreValuesTurnedByABlock", fn := fun _ => fun
  | [d1, d2, d3, d4, d5, d6, d7] => { results := [.lit (.bool false)], args := [d1, d2, d3, d4, d5, d6, d7] }
  | _ => none }
def FnBlockValuesStepsAreValuesTurnedByABlockWrongFalsely : Prop := fnBlockValuesStepsAreValuesTurnedByABlockRow.holds Try.pinned (OpenSpec.ofChange fnBlockValuesStepsAreValuesTurnedByABlockWrong)

/-- 'zzlaws_federation_b1.FnBlockValuesHangOnlyOnTheirCiphertextsRows': WHATEVER THE INPUT: true; the input reads as it did. -/
def fnBlockValuesHangOnlyOnTheirCiphertextsRowsSpec : ChangeSpec := { name := "fnBlockValuesHangOnlyOnTheirCiphertextsRows", fn := fun _ => fun
  | [d1, d2, d3, d4, d5, d6, d7, d8] => { results := [.lit (.bool true)], args := [d1, d2, d3, d4, d5, d6, d7, d8] }
  | _ => none }
def fnBlockValuesHangOnlyOnTheirCiphertextsRowsRow : OpenClaim := { program := "qxb6606418a", sum := "853a049224c7ef01ea97a5a0eeecdfddf64d0076a680dc7610b7a46dcc1020c7", func := "example.com/nox-train/nox-train/zzlaws_federation_b1.FnBlockValuesHangOnlyOnTheirCiphertextsRows", spec := "fnBlockValuesHangOnlyOnTheirCiphertextsRows", apart := false }
def FnBlockValuesHangOnlyOnTheirCiphertextsRowsSaid : Prop := fnBlockValuesHangOnlyOnTheirCiphertextsRowsRow.holds Try.pinned (OpenSpec.ofChange fnBlockValuesHangOnlyOnTheirCiphertextsRowsSpec)

/-- ITS FALSE NEIGHBOUR: 'it returns false'. Refute it at one input. -/
def fnBlockValuesHangOnlyOnTheirCiphertextsRowsWrong : ChangeSpec := { name := "fnBlockValuesHangOnlyOnTheirCiphertextsRows", fn := fun _ => fun
  | [d1, d2, d3, d4, d5, d6, d7, d8] => { results := [.lit (.bool false)], args := [d1, d2, d3, d4, d5, d6, d7, d8] }
  | _ => none }
def FnBlockValuesHangOnlyOnTheirCiphertextsRowsWrongFalsely : Prop := fnBlockValuesHangOnlyOnTheirCiphertextsRowsRow.holds Try.pinned (OpenSpec.ofChange fnBlockValuesHangOnlyOnTheirCiphertextsRowsWrong)

end Rows
end Go.Proofs.Qxb6606418a
