/-
  No cell of these rows narrows 'for every input' (looked for: loops, veiled, ifaces, maps, wideKeys, modest, calm, conditions, laid).
  DERIVED. THE GIVEN ROWS OF THIS SEAT. 3 by the template 'for every input the law returns true; each argument reads behind the call as it read before'; 0 by the template 'total and deterministic' (their statements: Qxb6621682aTotals.lean).
  GIVEN WITH THE SEED: the statements are not yours to turn. If you find one false, say at which input.
  Laid BY PROGRAM, IN A SANDBOX (cutbox-rows.mjs): the forced cells as the released guide's own fill.sh prints them over the translation f8408087376d3c4a… (all of the seat's roots in one cut). By AI agents, Wed Nov 11 2026. No macro, syntax, notation, axiom, sorry.
-/
import Derived.Test.Qxb6621682aChecked
import GoSem.Claim
import GoSem.ClaimJoined
import GoSem.ClaimMapViews
import Derived.JoinedTies
import Derived.KernelRfl
namespace Go.Proofs.Qxb6621682a
/- THE CELL 'sum', in the pinned program and in every row, IS THE sha256 OF THE DUMP (.gsa) THAT Qxb6621682aProg.lean LOADS. Nothing in Lean hashes anything: it is a label: what it is worth is what the hold of that sum in a sandbox is worth. -/
noncomputable def Try.pinned : Pinned := { name := "qxb6621682a", sum := "f8408087376d3c4abc38355511a7485ec1dd69126bbdea13ca890d416a933215", checked := Try.checked }
namespace Rows
def none {H : Type} : Left H := { results := [], args := [] }

/-- 'zzlaws_history_b1.FnIsItemCutAtAnyPlace': WHATEVER THE INPUT: true; the input reads as it did. -/
def fnIsItemCutAtAnyPlaceSpec : ChangeSpec := { name := "fnIsItemCutAtAnyPlace", fn := fun _ => fun
  | [d1, d2] => { results := [.lit (.bool true)], args := [d1, d2] }
  | _ => none }
def fnIsItemCutAtAnyPlaceRow : OpenClaim := { program := "qxb6621682a", sum := "f8408087376d3c4abc38355511a7485ec1dd69126bbdea13ca890d416a933215", func := "example.com/verrou/verrou/zzlaws_history_b1.FnIsItemCutAtAnyPlace", spec := "fnIsItemCutAtAnyPlace", apart := false }
def FnIsItemCutAtAnyPlaceSaid : Prop := fnIsItemCutAtAnyPlaceRow.holds Try.pinned (OpenSpec.ofChange fnIsItemCutAtAnyPlaceSpec)

/-- ITS FALSE NEIGHBOUR: 'it returns false'. Refute it at one input. -/
def fnIsItemCutAtAnyPlaceWrong : ChangeSpec := { name := "fnIsItemCutAtAnyPlace", fn := fun _ => fun
  | [d1, d2] => { results := [.lit (.bool false)], args := [d1, d2] }
  | _ => none }
def FnIsItemCutAtAnyPlaceWrongFalsely : Prop := fnIsItemCutAtAnyPlaceRow.holds Try.pinned (OpenSpec.ofChange fnIsItemCutAtAnyPlaceWrong)

/-- 'zzlaws_history_b1.FnLinkSkipsToNextTransaction': WHATEVER THE INPUT: true; the input reads as it did. -/
def fnLinkSkipsToNextTransactionSpec : ChangeSpec := { name := "fnLinkSkipsToNextTransaction", fn := fun _ => fun
  | [d1, d2, d3] => { results := [.lit (.bool true)], args := [d1, d2, d3] }
  | _ => none }
def fnLinkSkipsToNextTransactionRow : OpenClaim := { program := "qxb6621682a", sum := "f8408087376d3c4abc38355511a7485ec1dd69126bbdea13ca890d416a933215", func := "example.com/verrou/verrou/zzlaws_history_b1.FnLinkSkipsToNextTransaction", spec := "fnLinkSkipsToNextTransaction", apart := false }
def FnLinkSkipsToNextTransactionSaid : Prop := fnLinkSkipsToNextTransactionRow.holds Try.pinned (OpenSpec.ofChange fnLinkSkipsToNextTransactionSpec)

/-- ITS FALSE NEIGHBOUR: 'it returns false'. Refute it at one input. -/
def fnLinkSkipsToNextTransactionWrong : ChangeSpec := { name := "fnLinkSkipsToNextTransaction", fn := fun _ => fun
  | [d1, d2, d3] => { results := [.lit (.bool false)], args := [d1, d2, d3] }
  | _ => none }
def FnLinkSkipsToNextTransactionWrongFalsely : Prop := fnLinkSkipsToNextTransactionRow.holds Try.pinned (OpenSpec.ofChange fnLinkSkipsToNextTransactionWrong)

/-- 'zzlaws_history_b1.FnLinkWalkVisitsEachRunStartOnce': WHATEVER THE INPUT: true; the input reads as it did. -/
def fnLinkWalkVisitsEachRunStartOnceSpec : ChangeSpec := { name := "fnLinkWalkVisitsEachRunStartOnce", fn := fun _ => fun
  | [d1, d2] => { results := [.lit (.bool true)], args := [d1, d2] }
  | _ => none }
def fnLinkWalkVisitsEachRunStartOnceRow : OpenClaim := { program := "qxb6621682a", sum := "f8408087376d3c4abc38355511a7485ec1dd69126bbdea13ca890d416a933215", func := "example.com/verrou/verrou/zzlaws_history_b1.FnLinkWalkVisitsEachRunStartOnce", spec := "fnLinkWalkVisitsEachRunStartOnce", apart := false }
def FnLinkWalkVisitsEachRunStartOnceSaid : Prop := fnLinkWalkVisitsEachRunStartOnceRow.holds Try.pinned (OpenSpec.ofChange fnLinkWalkVisitsEachRunStartOnceSpec)

/-- ITS FALSE NEIGHBOUR: 'it returns false'. Refute it at one input. -/
def fnLinkWalkVisitsEachRunStartOnceWrong : ChangeSpec := { name := "fnLinkWalkVisitsEachRunStartOnce", fn := fun _ => fun
  | [d1, d2] => { results := [.lit (.bool false)], args := [d1, d2] }
  | _ => none }
def FnLinkWalkVisitsEachRunStartOnceWrongFalsely : Prop := fnLinkWalkVisitsEachRunStartOnceRow.holds Try.pinned (OpenSpec.ofChange fnLinkWalkVisitsEachRunStartOnceWrong)

end Rows
end Go.Proofs.Qxb6621682a
