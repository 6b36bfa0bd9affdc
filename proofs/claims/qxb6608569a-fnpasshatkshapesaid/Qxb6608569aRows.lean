/-
  No cell of these rows narrows 'for every input' (looked for: loops, veiled, ifaces, maps, wideKeys, modest, calm, conditions, laid).
  DERIVED. THE GIVEN ROWS OF THIS SEAT. 2 by the template 'for every input the law returns true; each argument reads behind the call as it read before'; 0 by the template 'total and deterministic' (their statements: Qxb6608569aTotals.lean).
  GIVEN WITH THE SEED: the statements are not yours to turn. If you find one false, say at which input.
  Laid BY PROGRAM, IN A SANDBOX (cutbox-rows.mjs): the forced cells as the released guide's own fill.sh prints them over the translation e1dbccea6fe31967… (all of the seat's roots in one cut). By AI agents, Wed Nov 11 2026. No macro, syntax, notation, axiom, sorry.
-/
import Derived.Test.Qxb6608569aChecked
import GoSem.Claim
import GoSem.ClaimJoined
import GoSem.ClaimMapViews
import Derived.JoinedTies
import Derived.KernelRfl
namespace Go.Proofs.Qxb6608569a
/- THE CELL 'sum', in the pinned program and in every row, IS THE sha256 OF THE DUMP (.gsa) THAT Qxb6608569aProg.lean LOADS. Nothing in Lean hashes anything: it is a label: what it is worth is what the hold of that sum in a sandbox is worth. -/
noncomputable def Try.pinned : Pinned := { name := "qxb6608569a", sum := "e1dbccea6fe3196723b1f01961af7ed5ed1c16eb18763533f89a4eb4d9538a06", checked := Try.checked }
namespace Rows
def none {H : Type} : Left H := { results := [], args := [] }

/-- 'zzlaws_internal_reliability_b1.FnPassHatKShape': WHATEVER THE INPUT: true; the input reads as it did. -/
def fnPassHatKShapeSpec : ChangeSpec := { name := "fnPassHatKShape", fn := fun _ => fun
  | [d1, d2] => { results := [.lit (.bool true)], args := [d1, d2] }
  | _ => none }
def fnPassHatKShapeRow : OpenClaim := { program := "qxb6608569a", sum := "e1dbccea6fe3196723b1f01961af7ed5ed1c16eb18763533f89a4eb4d9538a06", func := "example.com/dialogue-under-test/dialogue-under-test/zzlaws_internal_reliability_b1.FnPassHatKShape", spec := "fnPassHatKShape", apart := false }
def FnPassHatKShapeSaid : Prop := fnPassHatKShapeRow.holds Try.pinned (OpenSpec.ofChange fnPassHatKShapeSpec)

/-- ITS FALSE NEIGHBOUR: 'it returns false'. Refute it at one input. -/
def fnPassHatKShapeWrong : ChangeSpec := { name := "fnPassHatKShape", fn := fun _ => fun
  | [d1, d2] => { results := [.lit (.bool false)], args := [d1, d2] }
  | _ => none }
def FnPassHatKShapeWrongFalsely : Prop := fnPassHatKShapeRow.holds Try.pinned (OpenSpec.ofChange fnPassHatKShapeWrong)

/-- 'zzlaws_internal_reliability_b1.FnPassHatKMonotoneInPassed': WHATEVER THE INPUT: true; the input reads as it did. -/
def fnPassHatKMonotoneInPassedSpec : ChangeSpec := { name := "fnPassHatKMonotoneInPassed", fn := fun _ => fun
  | [d1, d2, d3] => { results := [.lit (.bool true)], args := [d1, d2, d3] }
  | _ => none }
def fnPassHatKMonotoneInPassedRow : OpenClaim := { program := "qxb6608569a", sum := "e1dbccea6fe3196723b1f01961af7ed5ed1c16eb18763533f89a4eb4d9538a06", func := "example.com/dialogue-under-test/dialogue-under-test/zzlaws_internal_reliability_b1.FnPassHatKMonotoneInPassed", spec := "fnPassHatKMonotoneInPassed", apart := false }
def FnPassHatKMonotoneInPassedSaid : Prop := fnPassHatKMonotoneInPassedRow.holds Try.pinned (OpenSpec.ofChange fnPassHatKMonotoneInPassedSpec)

/-- ITS FALSE NEIGHBOUR: 'it returns false'. Refute it at one input. -/
def fnPassHatKMonotoneInPassedWrong : ChangeSpec := { name := "fnPassHatKMonotoneInPassed", fn := fun _ => fun
  | [d1, d2, d3] => { results := [.lit (.bool false)], args := [d1, d2, d3] }
  | _ => none }
def FnPassHatKMonotoneInPassedWrongFalsely : Prop := fnPassHatKMonotoneInPassedRow.holds Try.pinned (OpenSpec.ofChange fnPassHatKMonotoneInPassedWrong)

end Rows
end Go.Proofs.Qxb6608569a
