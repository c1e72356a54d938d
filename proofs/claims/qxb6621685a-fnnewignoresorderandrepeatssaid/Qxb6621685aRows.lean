/-
  No cell of these rows narrows 'for every input' (looked for: loops, veiled, ifaces, maps, wideKeys, modest, calm, conditions, laid).
  DERIVED. THE GIVEN ROWS OF THIS SEAT. 2 by the template 'for every input the law returns true; each argument reads behind the call as it read before'; 0 by the template 'total and deterministic' (their statements: Qxb6621685aTotals.lean).
  GIVEN WITH THE SEED: the statements are not yours to turn. If you find one false, say at which input.
  Laid BY PROGRAM, IN A SANDBOX (cutbox-rows.mjs): the forced cells as the released guide's own fill.sh prints them over the translation 891bc09b112d3edf… (all of the seat's roots in one cut). By AI agents, Wed Nov 11 2026. No macro, syntax, notation, axiom, sorry.
-/
import Derived.Test.Qxb6621685aChecked
import GoSem.Claim
import GoSem.ClaimJoined
import GoSem.ClaimMapViews
import Derived.JoinedTies
import Derived.KernelRfl
namespace Go.Proofs.Qxb6621685a
/- THE CELL 'sum', in the pinned program and in every row, IS THE sha256 OF THE DUMP (.gsa) THAT Qxb6621685aProg.lean LOADS. Nothing in Lean hashes anything: it is a label: what it is worth is what the hold of that sum in a sandbox is worth. -/
noncomputable def Try.pinned : Pinned := { name := "qxb6621685a", sum := "891bc09b112d3edf697aa57436070f3b16fcfbcb73f358650e0e4eef2e1ef3b6", checked := Try.checked }
namespace Rows
def none {H : Type} : Left H := { results := [], args := [] }

/-- 'zzlaws_pkg_permissions_b1.FnNewJoinIsUnionOfParts': WHATEVER THE INPUT: true; the input reads as it did. -/
def fnNewJoinIsUnionOfPartsSpec : ChangeSpec := { name := "fnNewJoinIsUnionOfParts", fn := fun _ => fun
  | [d1, d2, d3] => { results := [.lit (.bool true)], args := [d1, d2, d3] }
  | _ => none }
def fnNewJoinIsUnionOfPartsRow : OpenClaim := { program := "qxb6621685a", sum := "891bc09b112d3edf697aa57436070f3b16fcfbcb73f358650e0e4eef2e1ef3b6", func := "example.com/facade/facade/zzlaws_pkg_permissions_b1.FnNewJoinIsUnionOfParts", spec := "fnNewJoinIsUnionOfParts", apart := false }
def FnNewJoinIsUnionOfPartsSaid : Prop := fnNewJoinIsUnionOfPartsRow.holds Try.pinned (OpenSpec.ofChange fnNewJoinIsUnionOfPartsSpec)

/-- ITS FALSE NEIGHBOUR: 'it returns false'. Refute it at one input. -/
def fnNewJoinIsUnionOfPartsWrong : ChangeSpec := { name := "fnNewJoinIsUnionOfParts", fn := fun _ => fun
  | [d1, d2, d3] => { results := [.lit (.bool false)], args := [d1, d2, d3] }
  | _ => none }
def FnNewJoinIsUnionOfPartsWrongFalsely : Prop := fnNewJoinIsUnionOfPartsRow.holds Try.pinned (OpenSpec.ofChange fnNewJoinIsUnionOfPartsWrong)

/-- 'zzlaws_pkg_permissions_b1.FnNewIgnoresOrderAndRepeats': WHATEVER THE INPUT: true; the input reads as it did. -/
def fnNewIgnoresOrderAndRepeatsSpec : ChangeSpec := { name := "fnNewIgnoresOrderAndRepeats", fn := fun _ => fun
  | [d1, d2, d3, d4] => { results := [.lit (.bool true)], args := [d1, d2, d3, d4] }
  | _ => none }
def fnNewIgnoresOrderAndRepeatsRow : OpenClaim := { program := "qxb6621685a", sum := "891bc09b112d3edf697aa57436070f3b16fcfbcb73f358650e0e4eef2e1ef3b6", func := "example.com/facade/facade/zzlaws_pkg_permissions_b1.FnNewIgnoresOrderAndRepeats", spec := "fnNewIgnoresOrderAndRepeats", apart := false }
def FnNewIgnoresOrderAndRepeatsSaid : Prop := fnNewIgnoresOrderAndRepeatsRow.holds Try.pinned (OpenSpec.ofChange fnNewIgnoresOrderAndRepeatsSpec)

/-- ITS FALSE NEIGHBOUR: 'it returns false'. Refute it at one input. -/
def fnNewIgnoresOrderAndRepeatsWrong : ChangeSpec := { name := "fnNewIgnoresOrderAndRepeats", fn := fun _ => fun
  | [d1, d2, d3, d4] => { results := [.lit (.bool false)], args := [d1, d2, d3, d4] }
  | _ => none }
def FnNewIgnoresOrderAndRepeatsWrongFalsely : Prop := fnNewIgnoresOrderAndRepeatsRow.holds Try.pinned (OpenSpec.ofChange fnNewIgnoresOrderAndRepeatsWrong)

end Rows
end Go.Proofs.Qxb6621685a
