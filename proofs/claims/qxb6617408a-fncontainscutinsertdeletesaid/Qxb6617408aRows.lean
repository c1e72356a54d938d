/-
  No cell of these rows narrows 'for every input' (looked for: loops, veiled, ifaces, maps, wideKeys, modest, calm, conditions, laid).
  DERIVED. THE GIVEN ROWS OF THIS SEAT. 1 by the template 'for every input the law returns true; each argument reads behind the call as it read before'; 0 by the template 'total and deterministic' (their statements: Qxb6617408aTotals.lean).
  GIVEN WITH THE SEED: the statements are not yours to turn. If you find one false, say at which input.
  Laid BY PROGRAM, IN A SANDBOX (cutbox-rows.mjs): the forced cells as the released guide's own fill.sh prints them over the translation eb81fef8eeb24607… (all of the seat's roots in one cut). By AI agents, Wed Nov 11 2026. No macro, syntax, notation, axiom, sorry.
-/
import Derived.Test.Qxb6617408aChecked
import GoSem.Claim
import GoSem.ClaimJoined
import GoSem.ClaimMapViews
import Derived.JoinedTies
import Derived.KernelRfl
namespace Go.Proofs.Qxb6617408a
/- THE CELL 'sum', in the pinned program and in every row, IS THE sha256 OF THE DUMP (.gsa) THAT Qxb6617408aProg.lean LOADS. Nothing in Lean hashes anything: it is a label: what it is worth is what the hold of that sum in a sandbox is worth. -/
noncomputable def Try.pinned : Pinned := { name := "qxb6617408a", sum := "eb81fef8eeb2460721607b40c721f652e0667c7041ba0da7033514e666fad103", checked := Try.checked }
namespace Rows
def none {H : Type} : Left H := { results := [], args := [] }

/-- 'zzlaws_pkg_instruction_b1.FnContainsCutInsertDelete': WHATEVER THE INPUT: true; the input reads as it did. -/
def fnContainsCutInsertDeleteSpec : ChangeSpec := { name := "fnContainsCutInsertDelete", fn := fun _ => fun
  | [d1, d2, d3] => { results := [.lit (.bool true)], args := [d1, d2, d3] }
  | _ => none }
def fnContainsCutInsertDeleteRow : OpenClaim := { program := "qxb6617408a", sum := "eb81fef8eeb2460721607b40c721f652e0667c7041ba0da7033514e666fad103", func := "example.com/custodia/custodia/zzlaws_pkg_instruction_b1.FnContainsCutInsertDelete", spec := "fnContainsCutInsertDelete", apart := false }
def FnContainsCutInsertDeleteSaid : Prop := fnContainsCutInsertDeleteRow.holds Try.pinned (OpenSpec.ofChange fnContainsCutInsertDeleteSpec)

/-- ITS FALSE NEIGHBOUR: 'it returns false'. Refute it at one input. -/
def fnContainsCutInsertDeleteWrong : ChangeSpec := { name := "fnContainsCutInsertDelete", fn := fun _ => fun
  | [d1, d2, d3] => { results := [.lit (.bool false)], args := [d1, d2, d3] }
  | _ => none }
def FnContainsCutInsertDeleteWrongFalsely : Prop := fnContainsCutInsertDeleteRow.holds Try.pinned (OpenSpec.ofChange fnContainsCutInsertDeleteWrong)

end Rows
end Go.Proofs.Qxb6617408a
