/-
  No cell of these rows narrows 'for every input' (looked for: loops, veiled, ifaces, maps, wideKeys, modest, calm, conditions, laid).
  DERIVED. THE GIVEN ROWS OF THIS SEAT. 3 by the template 'for every input the law returns true; each argument reads behind the call as it read before'; 0 by the template 'total and deterministic' (their statements: Qxb6605974aTotals.lean).
  GIVEN WITH THE SEED: the statements are not yours to turn. If you find one false, say at which input.
  Laid BY PROGRAM, IN A SANDBOX (cutbox-rows.mjs): the forced cells as the released guide's own fill.sh prints them over the translation 7a093b6139d08f15… (all of the seat's roots in one cut). By AI agents, Wed Nov 11 2026. No macro, syntax, notation, axiom, sorry.
-/
import Derived.Test.Qxb6605974aChecked
import GoSem.Claim
import GoSem.ClaimJoined
import GoSem.ClaimMapViews
import Derived.JoinedTies
import Derived.KernelRfl
namespace Go.Proofs.Qxb6605974a
/- THE CELL 'sum', in the pinned program and in every row, IS THE sha256 OF THE DUMP (.gsa) THAT Qxb6605974aProg.lean LOADS. Nothing in Lean hashes anything: it is a label: what it is worth is what the hold of that sum in a sandbox is worth. -/
noncomputable def Try.pinned : Pinned := { name := "qxb6605974a", sum := "7a093b6139d08f159166634af28ad7246f51e5e76fdea73fc7dfebe278ba9ce7", checked := Try.checked }
namespace Rows
def none {H : Type} : Left H := { results := [], args := [] }

/-- 'zzlaws_root_b1.FnNewWindowExact': WHATEVER THE INPUT: true; the input reads as it did. -/
def fnNewWindowExactSpec : ChangeSpec := { name := "fnNewWindowExact", fn := fun _ => fun
  | [d1, d2] => { results := [.lit (.bool true)], args := [d1, d2] }
  | _ => none }
def fnNewWindowExactRow : OpenClaim := { program := "qxb6605974a", sum := "7a093b6139d08f159166634af28ad7246f51e5e76fdea73fc7dfebe278ba9ce7", func := "example.com/tripline/tripline/zzlaws_root_b1.FnNewWindowExact", spec := "fnNewWindowExact", apart := false }
def FnNewWindowExactSaid : Prop := fnNewWindowExactRow.holds Try.pinned (OpenSpec.ofChange fnNewWindowExactSpec)

/-- ITS FALSE NEIGHBOUR: 'it returns false'. Refute it at one input. -/
def fnNewWindowExactWrong : ChangeSpec := { name := "fnNewWindowExact", fn := fun _ => fun
  | [d1, d2] => { results := [.lit (.bool false)], args := [d1, d2] }
  | _ => none }
def FnNewWindowExactWrongFalsely : Prop := fnNewWindowExactRow.holds Try.pinned (OpenSpec.ofChange fnNewWindowExactWrong)

/-- 'zzlaws_root_b1.FnNewWindowFinerNeverCoarser': WHATEVER THE INPUT: true; the input reads as it did. -/
def fnNewWindowFinerNeverCoarserSpec : ChangeSpec := { name := "fnNewWindowFinerNeverCoarser", fn := fun _ => fun
  | [d1, d2, d3] => { results := [.lit (.bool true)], args := [d1, d2, d3] }
  | _ => none }
def fnNewWindowFinerNeverCoarserRow : OpenClaim := { program := "qxb6605974a", sum := "7a093b6139d08f159166634af28ad7246f51e5e76fdea73fc7dfebe278ba9ce7", func := "example.com/tripline/tripline/zzlaws_root_b1.FnNewWindowFinerNeverCoarser", spec := "fnNewWindowFinerNeverCoarser", apart := false }
def FnNewWindowFinerNeverCoarserSaid : Prop := fnNewWindowFinerNeverCoarserRow.holds Try.pinned (OpenSpec.ofChange fnNewWindowFinerNeverCoarserSpec)

/-- ITS FALSE NEIGHBOUR: 'it returns false'. Refute it at one input. -/
def fnNewWindowFinerNeverCoarserWrong : ChangeSpec := { name := "fnNewWindowFinerNeverCoarser", fn := fun _ => fun
  | [d1, d2, d3] => { results := [.lit (.bool false)], args := [d1, d2, d3] }
  | _ => none }
def FnNewWindowFinerNeverCoarserWrongFalsely : Prop := fnNewWindowFinerNeverCoarserRow.holds Try.pinned (OpenSpec.ofChange fnNewWindowFinerNeverCoarserWrong)

/-- 'zzlaws_root_b1.FnRingOfNewWindow': WHATEVER THE INPUT: true; the input reads as it did. -/
def fnRingOfNewWindowSpec : ChangeSpec := { name := "fnRingOfNewWindow", fn := fun _ => fun
  | [d1, d2] => { results := [.lit (.bool true)], args := [d1, d2] }
  | _ => none }
def fnRingOfNewWindowRow : OpenClaim := { program := "qxb6605974a", sum := "7a093b6139d08f159166634af28ad7246f51e5e76fdea73fc7dfebe278ba9ce7", func := "example.com/tripline/tripline/zzlaws_root_b1.FnRingOfNewWindow", spec := "fnRingOfNewWindow", apart := false }
def FnRingOfNewWindowSaid : Prop := fnRingOfNewWindowRow.holds Try.pinned (OpenSpec.ofChange fnRingOfNewWindowSpec)

/-- ITS FALSE NEIGHBOUR: 'it returns false'. Refute it at one input. -/
def fnRingOfNewWindowWrong : ChangeSpec := { name := "fnRingOfNewWindow", fn := fun _ => fun
  | [d1, d2] => { results := [.lit (.bool false)], args := [d1, d2] }
  | _ => none }
def FnRingOfNewWindowWrongFalsely : Prop := fnRingOfNewWindowRow.holds Try.pinned (OpenSpec.ofChange fnRingOfNewWindowWrong)

end Rows
end Go.Proofs.Qxb6605974a
