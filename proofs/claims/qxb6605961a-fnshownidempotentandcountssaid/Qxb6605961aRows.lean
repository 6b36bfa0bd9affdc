/-
  No cell of these rows narrows 'for every input' (looked for: loops, veiled, ifaces, maps, wideKeys, modest, calm, conditions, laid).
  DERIVED. THE GIVEN ROWS OF THIS SEAT. 2 by the template 'for every input the law returns true; each argument reads behind the call as it read before'; 0 by the template 'total and deterministic' (their statements: Qxb6605961aTotals.lean).
  GIVEN WITH THE SEED: the statements are not yours to turn. If you find one false, say at which input.
  Laid BY PROGRAM, IN A SANDBOX (cutbox-rows.mjs): the forced cells as the released guide's own fill.sh prints them over the translation d073e860c4a3dbc5… (all of the seat's roots in one cut). By AI agents, Wed Nov 11 2026. No macro, syntax, notation, axiom, sorry.
-/
import Derived.Test.Qxb6605961aChecked
import GoSem.Claim
import GoSem.ClaimJoined
import GoSem.ClaimMapViews
import Derived.JoinedTies
import Derived.KernelRfl
namespace Go.Proofs.Qxb6605961a
/- THE CELL 'sum', in the pinned program and in every row, IS THE sha256 OF THE DUMP (.gsa) THAT Qxb6605961aProg.lean LOADS. Nothing in Lean hashes anything: it is a label: what it is worth is what the hold of that sum in a sandbox is worth. -/
noncomputable def Try.pinned : Pinned := { name := "qxb6605961a", sum := "d073e860c4a3dbc58d4b2f7c00ea0e89bc05440613355279e306fe6d4bb77c29", checked := Try.checked }
namespace Rows
def none {H : Type} : Left H := { results := [], args := [] }

/-- 'zzlaws_table_b1.FnShownDashesEmptyFields': WHATEVER THE INPUT: true; the input reads as it did. -/
def fnShownDashesEmptyFieldsSpec : ChangeSpec := { name := "fnShownDashesEmptyFields", fn := fun _ => fun
  | [d] => { results := [.lit (.bool true)], args := [d] }
  | _ => none }
def fnShownDashesEmptyFieldsRow : OpenClaim := { program := "qxb6605961a", sum := "d073e860c4a3dbc58d4b2f7c00ea0e89bc05440613355279e306fe6d4bb77c29", func := "example.com/vestline/vestline/zzlaws_table_b1.FnShownDashesEmptyFields", spec := "fnShownDashesEmptyFields", apart := false }
def FnShownDashesEmptyFieldsSaid : Prop := fnShownDashesEmptyFieldsRow.holds Try.pinned (OpenSpec.ofChange fnShownDashesEmptyFieldsSpec)

/-- ITS FALSE NEIGHBOUR: 'it returns false'. Refute it at one input. -/
def fnShownDashesEmptyFieldsWrong : ChangeSpec := { name := "fnShownDashesEmptyFields", fn := fun _ => fun
  | [d] => { results := [.lit (.bool false)], args := [d] }
  | _ => none }
def FnShownDashesEmptyFieldsWrongFalsely : Prop := fnShownDashesEmptyFieldsRow.holds Try.pinned (OpenSpec.ofChange fnShownDashesEmptyFieldsWrong)

/-- 'zzlaws_table_b1.FnShownIdempotentAndCounts': WHATEVER THE INPUT: true; the input reads as it did. -/
def fnShownIdempotentAndCountsSpec : ChangeSpec := { name := "fnShownIdempotentAndCounts", fn := fun _ => fun
  | [d] => { results := [.lit (.bool true)], args := [d] }
  | _ => none }
def fnShownIdempotentAndCountsRow : OpenClaim := { program := "qxb6605961a", sum := "d073e860c4a3dbc58d4b2f7c00ea0e89bc05440613355279e306fe6d4bb77c29", func := "example.com/vestline/vestline/zzlaws_table_b1.FnShownIdempotentAndCounts", spec := "fnShownIdempotentAndCounts", apart := false }
def FnShownIdempotentAndCountsSaid : Prop := fnShownIdempotentAndCountsRow.holds Try.pinned (OpenSpec.ofChange fnShownIdempotentAndCountsSpec)

/-- ITS FALSE NEIGHBOUR: 'it returns false'. Refute it at one input. -/
def fnShownIdempotentAndCountsWrong : ChangeSpec := { name := "fnShownIdempotentAndCounts", fn := fun _ => fun
  | [d] => { results := [.lit (.bool false)], args := [d] }
  | _ => none }
def FnShownIdempotentAndCountsWrongFalsely : Prop := fnShownIdempotentAndCountsRow.holds Try.pinned (OpenSpec.ofChange fnShownIdempotentAndCountsWrong)

end Rows
end Go.Proofs.Qxb6605961a
