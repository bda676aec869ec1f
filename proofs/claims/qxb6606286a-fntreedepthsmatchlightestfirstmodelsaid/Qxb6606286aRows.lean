/-
  No cell of these rows narrows 'for every input' (looked for: loops, veiled, ifaces, maps, wideKeys, modest, calm, conditions, laid).
  DERIVED. THE GIVEN ROWS OF THIS SEAT. 3 by the template 'for every input the law returns true; each argument reads behind the call as it read before'; 0 by the template 'total and deterministic' (their statements: Qxb6606286aTotals.lean).
  GIVEN WITH THE SEED: the statements are not yours to turn. If you find one false, say at which input.
  Laid BY PROGRAM, IN A SANDBOX (cutbox-rows.mjs): the forced cells as the released guide's own fill.sh prints them over the translation f091b13e602fa0c7… (all of the seat's roots in one cut). By AI agents, Wed Nov 11 2026. No macro, syntax, notation, axiom, sorry.
-/
import Derived.Test.Qxb6606286aChecked
import GoSem.Claim
import GoSem.ClaimJoined
import GoSem.ClaimMapViews
import Derived.JoinedTies
import Derived.KernelRfl
namespace Go.Proofs.Qxb6606286a
/- THE CELL 'sum', in the pinned program and in every row, IS THE sha256 OF THE DUMP (.gsa) THAT Qxb6606286aProg.lean LOADS. Nothing in Lean hashes anything: it is a label: what it is worth is what the hold of that sum in a sandbox is worth. -/
noncomputable def Try.pinned : Pinned := { name := "qxb6606286a", sum := "f091b13e602fa0c791dd35be2853971fc2c4e35bc9c31f16c0b57e9a1c53d36d", checked := Try.checked }
namespace Rows
def none {H : Type} : Left H := { results := [], args := [] }

/-- 'zzlaws_deflate_b1.FnTreeDepthsMatchLightestFirstModel': WHATEVER THE INPUT: true; the input reads as it did. -/
def fnTreeDepthsMatchLightestFirstModelSpec : ChangeSpec := { name := "fnTreeDepthsMatchLightestFirstModel", fn := fun _ => fun
  | [d] => { results := [.lit (.bool true)], args := [d] }
  | _ => none }
def fnTreeDepthsMatchLightestFirstModelRow : OpenClaim := { program := "qxb6606286a", sum := "f091b13e602fa0c791dd35be2853971fc2c4e35bc9c31f16c0b57e9a1c53d36d", func := "example.com/longhaul/longhaul/zzlaws_deflate_b1.FnTreeDepthsMatchLightestFirstModel", spec := "fnTreeDepthsMatchLightestFirstModel", unfollowed := true, recurses := true, apart := false }
def FnTreeDepthsMatchLightestFirstModelSaid : Prop := fnTreeDepthsMatchLightestFirstModelRow.holds Try.pinned (OpenSpec.ofChange fnTreeDepthsMatchLightestFirstModelSpec)

/-- ITS FALSE NEIGHBOUR: 'it returns false'. Refute it at one input. -/
def fnTreeDepthsMatchLightestFirstModelWrong : ChangeSpec := { name := "fnTreeDepthsMatchLightestFirstModel", fn := fun _ => fun
  | [d] => { results := [.lit (.bool false)], args := [d] }
  | _ => none }
def FnTreeDepthsMatchLightestFirstModelWrongFalsely : Prop := fnTreeDepthsMatchLightestFirstModelRow.holds Try.pinned (OpenSpec.ofChange fnTreeDepthsMatchLightestFirstModelWrong)

/-- 'zzlaws_deflate_b1.FnTreeDepthsFormCompleteNonincreasingCode': WHATEVER THE INPUT: true; the input reads as it did. -/
def fnTreeDepthsFormCompleteNonincreasingCodeSpec : ChangeSpec := { name := "fnTreeDepthsFormCompleteNonincreasingCode", fn := fun _ => fun
  | [d] => { results := [.lit (.bool true)], args := [d] }
  | _ => none }
def fnTreeDepthsFormCompleteNonincreasingCodeRow : OpenClaim := { program := "qxb6606286a", sum := "f091b13e602fa0c791dd35be2853971fc2c4e35bc9c31f16c0b57e9a1c53d36d", func := "example.com/longhaul/longhaul/zzlaws_deflate_b1.FnTreeDepthsFormCompleteNonincreasingCode", spec := "fnTreeDepthsFormCompleteNonincreasingCode", unfollowed := true, recurses := true, apart := false }
def FnTreeDepthsFormCompleteNonincreasingCodeSaid : Prop := fnTreeDepthsFormCompleteNonincreasingCodeRow.holds Try.pinned (OpenSpec.ofChange fnTreeDepthsFormCompleteNonincreasingCodeSpec)

/-- ITS FALSE NEIGHBOUR: 'it returns false'. Refute it at one input. -/
def fnTreeDepthsFormCompleteNonincreasingCodeWrong : ChangeSpec := { name := "fnTreeDepthsFormCompleteNonincreasingCode", fn := fun _ => fun
  | [d] => { results := [.lit (.bool false)], args := [d] }
  | _ => none }
def FnTreeDepthsFormCompleteNonincreasingCodeWrongFalsely : Prop := fnTreeDepthsFormCompleteNonincreasingCodeRow.holds Try.pinned (OpenSpec.ofChange fnTreeDepthsFormCompleteNonincreasingCodeWrong)

/-- 'zzlaws_deflate_b1.FnTreeDepthsHangOnScaledWeightsAlone': WHATEVER THE INPUT: true; the input reads as it did. -/
def fnTreeDepthsHangOnScaledWeightsAloneSpec : ChangeSpec := { name := "fnTreeDepthsHangOnScaledWeightsAlone", fn := fun _ => fun
  | [d] => { results := [.lit (.bool true)], args := [d] }
  | _ => none }
def fnTreeDepthsHangOnScaledWeightsAloneRow : OpenClaim := { program := "qxb6606286a", sum := "f091b13e602fa0c791dd35be2853971fc2c4e35bc9c31f16c0b57e9a1c53d36d", func := "example.com/longhaul/longhaul/zzlaws_deflate_b1.FnTreeDepthsHangOnScaledWeightsAlone", spec := "fnTreeDepthsHangOnScaledWeightsAlone", unfollowed := true, recurses := true, apart := false }
def FnTreeDepthsHangOnScaledWeightsAloneSaid : Prop := fnTreeDepthsHangOnScaledWeightsAloneRow.holds Try.pinned (OpenSpec.ofChange fnTreeDepthsHangOnScaledWeightsAloneSpec)

/-- ITS FALSE NEIGHBOUR: 'it returns false'. Refute it at one input. -/
def fnTreeDepthsHangOnScaledWeightsAloneWrong : ChangeSpec := { name := "fnTreeDepthsHangOnScaledWeightsAlone", fn := fun _ => fun
  | [d] => { results := [.lit (.bool false)], args := [d] }
  | _ => none }
def FnTreeDepthsHangOnScaledWeightsAloneWrongFalsely : Prop := fnTreeDepthsHangOnScaledWeightsAloneRow.holds Try.pinned (OpenSpec.ofChange fnTreeDepthsHangOnScaledWeightsAloneWrong)

end Rows
end Go.Proofs.Qxb6606286a
