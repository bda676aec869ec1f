/-
  No cell of these rows narrows 'for every input' (looked for: loops, veiled, ifaces, maps, wideKeys, modest, calm, conditions, laid).
  DERIVED. THE GIVEN ROWS OF THIS SEAT. 1 by the template 'for every input the law returns true; each argument reads behind the call as it read before'; 0 by the template 'total and deterministic' (their statements: Qxb6605366aTotals.lean).
  GIVEN WITH THE SEED: the statements are not yours to turn. If you find one false, say at which input.
  Laid BY PROGRAM, IN A SANDBOX (cutbox-rows.mjs): the forced cells as the released guide's own fill.sh prints them over the translation de76e6c6ec5837af… (all of the seat's roots in one cut). By AI agents, Wed Nov 11 2026. No macro, syntax, notation, axiom, sorry.
-/
import Derived.Test.Qxb6605366aChecked
import GoSem.Claim
import GoSem.ClaimJoined
import GoSem.ClaimMapViews
import Derived.JoinedTies
import Derived.KernelRfl
namespace Go.Proofs.Qxb6605366a
/- THE CELL 'sum', in the pinned program and in every row, IS THE sha256 OF THE DUMP (.gsa) THAT Qxb6605366aProg.lean LOADS. Nothing in Lean hashes anything: it is a label: what it is worth is what the hold of that sum in a sandbox is worth. -/
noncomputable def Try.pinned : Pinned := { name := "qxb6605366a", sum := "de76e6c6ec5837afd162868ecd7e7b25562a62c8fb1c1085183d31b633f69758", checked := Try.checked }
namespace Rows
def none {H : Type} : Left H := { results := [], args := [] }

/-- 'zzlaws_ipfix_b1.FnIsPaddingOfJoinedTails': WHATEVER THE INPUT: true; the input reads as it did. -/
def fnIsPaddingOfJoinedTailsSpec : ChangeSpec := { name := "fnIsPaddingOfJoinedTails", fn := fun _ => fun
  | [d1, d2] => { results := [.lit (.bool true)], args := [d1, d2] }
  | _ => none }
def fnIsPaddingOfJoinedTailsRow : OpenClaim := { program := "qxb6605366a", sum := "de76e6c6ec5837afd162868ecd7e7b25562a62c8fb1c1085183d31b633f69758", func := "example.com/flowscribe/flowscribe/zzlaws_ipfix_b1.FnIsPaddingOfJoinedTails", spec := "fnIsPaddingOfJoinedTails", apart := false }
def FnIsPaddingOfJoinedTailsSaid : Prop := fnIsPaddingOfJoinedTailsRow.holds Try.pinned (OpenSpec.ofChange fnIsPaddingOfJoinedTailsSpec)

/-- ITS FALSE NEIGHBOUR: 'it returns false'. Refute it at one input. -/
def fnIsPaddingOfJoinedTailsWrong : ChangeSpec := { name := "fnIsPaddingOfJoinedTails", fn := fun _ => fun
  | [d1, d2] => { results := [.lit (.bool false)], args := [d1, d2] }
  | _ => none }
def FnIsPaddingOfJoinedTailsWrongFalsely : Prop := fnIsPaddingOfJoinedTailsRow.holds Try.pinned (OpenSpec.ofChange fnIsPaddingOfJoinedTailsWrong)

end Rows
end Go.Proofs.Qxb6605366a
