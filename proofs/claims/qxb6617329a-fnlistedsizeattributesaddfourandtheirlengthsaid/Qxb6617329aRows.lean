/-
  No cell of these rows narrows 'for every input' (looked for: loops, veiled, ifaces, maps, wideKeys, modest, calm, conditions, laid).
  DERIVED. THE GIVEN ROWS OF THIS SEAT. 3 by the template 'for every input the law returns true; each argument reads behind the call as it read before'; 0 by the template 'total and deterministic' (their statements: Qxb6617329aTotals.lean).
  GIVEN WITH THE SEED: the statements are not yours to turn. If you find one false, say at which input.
  Laid BY PROGRAM, IN A SANDBOX (cutbox-rows.mjs): the forced cells as the released guide's own fill.sh prints them over the translation 3891b560aba2358b… (all of the seat's roots in one cut). By AI agents, Wed Nov 11 2026. No macro, syntax, notation, axiom, sorry.
-/
import Derived.Test.Qxb6617329aChecked
import GoSem.Claim
import GoSem.ClaimJoined
import GoSem.ClaimMapViews
import Derived.JoinedTies
import Derived.KernelRfl
namespace Go.Proofs.Qxb6617329a
/- THE CELL 'sum', in the pinned program and in every row, IS THE sha256 OF THE DUMP (.gsa) THAT Qxb6617329aProg.lean LOADS. Nothing in Lean hashes anything: it is a label: what it is worth is what the hold of that sum in a sandbox is worth. -/
noncomputable def Try.pinned : Pinned := { name := "qxb6617329a", sum := "3891b560aba2358b17c3dc4609209847e98ec85276f35901786453f7b79a6782", checked := Try.checked }
namespace Rows
def none {H : Type} : Left H := { results := [], args := [] }

/-- 'zzlaws_protocol_b1.FnDataSizeGrowsByWhatAnInsertedBlockHolds': WHATEVER THE INPUT: true; the input reads as it did. -/
def fnDataSizeGrowsByWhatAnInsertedBlockHoldsSpec : ChangeSpec := { name := "fnDataSizeGrowsByWhatAnInsertedBlockHolds", fn := fun _ => fun
  | [d1, d2, d3, d4] => { results := [.lit (.bool true)], args := [d1, d2, d3, d4] }
  | _ => none }
def fnDataSizeGrowsByWhatAnInsertedBlockHoldsRow : OpenClaim := { program := "qxb6617329a", sum := "3891b560aba2358b17c3dc4609209847e98ec85276f35901786453f7b79a6782", func := "example.com/vaultwire/vaultwire/zzlaws_protocol_b1.FnDataSizeGrowsByWhatAnInsertedBlockHolds", spec := "fnDataSizeGrowsByWhatAnInsertedBlockHolds", apart := false }
def FnDataSizeGrowsByWhatAnInsertedBlockHoldsSaid : Prop := fnDataSizeGrowsByWhatAnInsertedBlockHoldsRow.holds Try.pinned (OpenSpec.ofChange fnDataSizeGrowsByWhatAnInsertedBlockHoldsSpec)

/-- ITS FALSE NEIGHBOUR: 'it returns false'. Refute it at one input. -/
def fnDataSizeGrowsByWhatAnInsertedBlockHoldsWrong : ChangeSpec := { name := "fnDataSizeGrowsByWhatAnInsertedBlockHolds", fn := fun _ => fun
  | [d1, d2, d3, d4] => { results := [.lit (.bool false)], args := [d1, d2, d3, d4] }
  | _ => none }
def FnDataSizeGrowsByWhatAnInsertedBlockHoldsWrongFalsely : Prop := fnDataSizeGrowsByWhatAnInsertedBlockHoldsRow.holds Try.pinned (OpenSpec.ofChange fnDataSizeGrowsByWhatAnInsertedBlockHoldsWrong)

/-- 'zzlaws_protocol_b1.FnListedSizeAttributesAddFourAndTheirLength': WHATEVER THE INPUT: true; the input reads as it did. -/
def fnListedSizeAttributesAddFourAndTheirLengthSpec : ChangeSpec := { name := "fnListedSizeAttributesAddFourAndTheirLength", fn := fun _ => fun
  | [d1, d2, d3, d4, d5, d6, d7] => { results := [.lit (.bool true)], args := [d1, d2, d3, d4, d5, d6, d7] }
  | _ => none }
def fnListedSizeAttributesAddFourAndTheirLengthRow : OpenClaim := { program := "qxb6617329a", sum := "3891b560aba2358b17c3dc4609209847e98ec85276f35901786453f7b79a6782", func := "example.com/vaultwire/vaultwire/zzlaws_protocol_b1.FnListedSizeAttributesAddFourAndTheirLength", spec := "fnListedSizeAttributesAddFourAndTheirLength", apart := false }
def FnListedSizeAttributesAddFourAndTheirLengthSaid : Prop := fnListedSizeAttributesAddFourAndTheirLengthRow.holds Try.pinned (OpenSpec.ofChange fnListedSizeAttributesAddFourAndTheirLengthSpec)

/-- ITS FALSE NEIGHBOUR: 'it returns false'. Refute it at one input. -/
def fnListedSizeAttributesAddFourAndTheirLengthWrong : ChangeSpec := { name := "fnListedSizeAttributesAddFourAndTheirLength", fn := fun _ => fun
  | [d1, d2, d3, d4, d5, d6, d7] => { results := [.lit (.bool false)], args := [d1, d2, d3, d4, d5, d6, d7] }
  | _ => none }
def FnListedSizeAttributesAddFourAndTheirLengthWrongFalsely : Prop := fnListedSizeAttributesAddFourAndTheirLengthRow.holds Try.pinned (OpenSpec.ofChange fnListedSizeAttributesAddFourAndTheirLengthWrong)

/-- 'zzlaws_protocol_b1.FnListedSizeFollowsTheNameLengthAlone': WHATEVER THE INPUT: true; the input reads as it did. -/
def fnListedSizeFollowsTheNameLengthAloneSpec : ChangeSpec := { name := "fnListedSizeFollowsTheNameLengthAlone", fn := fun _ => fun
  | [d1, d2, d3, d4, d5, d6, d7, d8, d9] => { results := [.lit (.bool true)], args := [d1, d2, d3, d4, d5, d6, d7, d8, d9] }
  | _ => none }
def fnListedSizeFollowsTheNameLengthAloneRow : OpenClaim := { program := "qxb6617329a", sum := "3891b560aba2358b17c3dc4609209847e98ec85276f35901786453f7b79a6782", func := "example.com/vaultwire/vaultwire/zzlaws_protocol_b1.FnListedSizeFollowsTheNameLengthAlone", spec := "fnListedSizeFollowsTheNameLengthAlone", apart := false }
def FnListedSizeFollowsTheNameLengthAloneSaid : Prop := fnListedSizeFollowsTheNameLengthAloneRow.holds Try.pinned (OpenSpec.ofChange fnListedSizeFollowsTheNameLengthAloneSpec)

/-- ITS FALSE NEIGHBOUR: 'it returns false'. Refute it at one input. -/
def fnListedSizeFollowsTheNameLengthAloneWrong : ChangeSpec := { name := "fnListedSizeFollowsTheNameLengthAlone", fn := fun _ => fun
  | [d1, d2, d3, d4, d5, d6, d7, d8, d9] => { results := [.lit (.bool false)], args := [d1, d2, d3, d4, d5, d6, d7, d8, d9] }
  | _ => none }
def FnListedSizeFollowsTheNameLengthAloneWrongFalsely : Prop := fnListedSizeFollowsTheNameLengthAloneRow.holds Try.pinned (OpenSpec.ofChange fnListedSizeFollowsTheNameLengthAloneWrong)

end Rows
end Go.Proofs.Qxb6617329a
