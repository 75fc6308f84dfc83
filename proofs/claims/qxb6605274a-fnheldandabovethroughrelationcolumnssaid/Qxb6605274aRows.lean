/-
  No cell of these rows narrows 'for every input' (looked for: loops, veiled, ifaces, maps, wideKeys, modest, calm, conditions, laid).
  DERIVED. THE GIVEN ROWS OF THIS SEAT. 5 by the template 'for every input the law returns true; each argument reads behind the call as it read before'; 0 by the template 'total and deterministic' (their statements: Qxb6605274aTotals.lean).
  GIVEN WITH THE SEED: the statements are not yours to turn. If you find one false, say at which input.
  Laid BY PROGRAM, IN A SANDBOX (cutbox-rows.mjs): the forced cells as the released guide's own fill.sh prints them over the translation df12c197f26d1d97… (all of the seat's roots in one cut). By AI agents, Wed Nov 11 2026. No macro, syntax, notation, axiom, sorry.
-/
import Derived.Test.Qxb6605274aChecked
import GoSem.Claim
import GoSem.ClaimJoined
import GoSem.ClaimMapViews
import Derived.JoinedTies
import Derived.KernelRfl
namespace Go.Proofs.Qxb6605274a
/- THE CELL 'sum', in the pinned program and in every row, IS THE sha256 OF THE DUMP (.gsa) THAT Qxb6605274aProg.lean LOADS. Nothing in Lean hashes anything: it is a label: what it is worth is what the hold of that sum in a sandbox is worth. -/
noncomputable def Try.pinned : Pinned := { name := "qxb6605274a", sum := "df12c197f26d1d9729d264308ea5ee5115df03c0e91dc47ea89ed19c728d5cf1", checked := Try.checked }
namespace Rows
def none {H : Type} : Left H := { results := [], args := [] }

/-- 'zzlaws_store_b1.FnTextOrNullFreshEachCall': WHATEVER THE INPUT: true; the input reads as it did. -/
def fnTextOrNullFreshEachCallSpec : ChangeSpec := { name := "fnTextOrNullFreshEachCall", fn := fun _ => fun
  | [d] => { results := [.lit (.bool true)], args := [d] }
  | _ => none }
def fnTextOrNullFreshEachCallRow : OpenClaim := { program := "qxb6605274a", sum := "df12c197f26d1d9729d264308ea5ee5115df03c0e91dc47ea89ed19c728d5cf1", func := "example.com/fuda/fuda/zzlaws_store_b1.FnTextOrNullFreshEachCall", spec := "fnTextOrNullFreshEachCall", apart := false }
def FnTextOrNullFreshEachCallSaid : Prop := fnTextOrNullFreshEachCallRow.holds Try.pinned (OpenSpec.ofChange fnTextOrNullFreshEachCallSpec)

/-- ITS FALSE NEIGHBOUR: 'it returns false'. Refute it at one input. -/
def fnTextOrNullFreshEachCallWrong : ChangeSpec := { name := "fnTextOrNullFreshEachCall", fn := fun _ => fun
  | [d] => { results := [.lit (.bool false)], args := [d] }
  | _ => none }
def FnTextOrNullFreshEachCallWrongFalsely : Prop := fnTextOrNullFreshEachCallRow.holds Try.pinned (OpenSpec.ofChange fnTextOrNullFreshEachCallWrong)

/-- 'zzlaws_store_b1.FnWalkUpSplicesTemplate': WHATEVER THE INPUT: true; the input reads as it did. -/
def fnWalkUpSplicesTemplateSpec : ChangeSpec := { name := "fnWalkUpSplicesTemplate", fn := fun _ => fun
  | [d1, d2, d3] => { results := [.lit (.bool true)], args := [d1, d2, d3] }
  | _ => none }
def fnWalkUpSplicesTemplateRow : OpenClaim := { program := "qxb6605274a", sum := "df12c197f26d1d9729d264308ea5ee5115df03c0e91dc47ea89ed19c728d5cf1", func := "example.com/fuda/fuda/zzlaws_store_b1.FnWalkUpSplicesTemplate", spec := "fnWalkUpSplicesTemplate", apart := false }
def FnWalkUpSplicesTemplateSaid : Prop := fnWalkUpSplicesTemplateRow.holds Try.pinned (OpenSpec.ofChange fnWalkUpSplicesTemplateSpec)

/-- ITS FALSE NEIGHBOUR: 'it returns false'. Refute it at one input. -/
def fnWalkUpSplicesTemplateWrong : ChangeSpec := { name := "fnWalkUpSplicesTemplate", fn := fun _ => fun
  | [d1, d2, d3] => { results := [.lit (.bool false)], args := [d1, d2, d3] }
  | _ => none }
def FnWalkUpSplicesTemplateWrongFalsely : Prop := fnWalkUpSplicesTemplateRow.holds Try.pinned (OpenSpec.ofChange fnWalkUpSplicesTemplateWrong)

/-- 'zzlaws_store_b1.FnWalkUpLengthAndOrder': WHATEVER THE INPUT: true; the input reads as it did. -/
def fnWalkUpLengthAndOrderSpec : ChangeSpec := { name := "fnWalkUpLengthAndOrder", fn := fun _ => fun
  | [d1, d2, d3] => { results := [.lit (.bool true)], args := [d1, d2, d3] }
  | _ => none }
def fnWalkUpLengthAndOrderRow : OpenClaim := { program := "qxb6605274a", sum := "df12c197f26d1d9729d264308ea5ee5115df03c0e91dc47ea89ed19c728d5cf1", func := "example.com/fuda/fuda/zzlaws_store_b1.FnWalkUpLengthAndOrder", spec := "fnWalkUpLengthAndOrder", apart := false }
def FnWalkUpLengthAndOrderSaid : Prop := fnWalkUpLengthAndOrderRow.holds Try.pinned (OpenSpec.ofChange fnWalkUpLengthAndOrderSpec)

/-- ITS FALSE NEIGHBOUR: 'it returns false'. Refute it at one input. -/
def fnWalkUpLengthAndOrderWrong : ChangeSpec := { name := "fnWalkUpLengthAndOrder", fn := fun _ => fun
  | [d1, d2, d3] => { results := [.lit (.bool false)], args := [d1, d2, d3] }
  | _ => none }
def FnWalkUpLengthAndOrderWrongFalsely : Prop := fnWalkUpLengthAndOrderRow.holds Try.pinned (OpenSpec.ofChange fnWalkUpLengthAndOrderWrong)

/-- 'zzlaws_store_b1.FnHeldAndAboveSplicesTemplate': WHATEVER THE INPUT: true; the input reads as it did. -/
def fnHeldAndAboveSplicesTemplateSpec : ChangeSpec := { name := "fnHeldAndAboveSplicesTemplate", fn := fun _ => fun
  | [d1, d2] => { results := [.lit (.bool true)], args := [d1, d2] }
  | _ => none }
def fnHeldAndAboveSplicesTemplateRow : OpenClaim := { program := "qxb6605274a", sum := "df12c197f26d1d9729d264308ea5ee5115df03c0e91dc47ea89ed19c728d5cf1", func := "example.com/fuda/fuda/zzlaws_store_b1.FnHeldAndAboveSplicesTemplate", spec := "fnHeldAndAboveSplicesTemplate", apart := false }
def FnHeldAndAboveSplicesTemplateSaid : Prop := fnHeldAndAboveSplicesTemplateRow.holds Try.pinned (OpenSpec.ofChange fnHeldAndAboveSplicesTemplateSpec)

/-- ITS FALSE NEIGHBOUR: 'it returns false'. Refute it at one input. -/
def fnHeldAndAboveSplicesTemplateWrong : ChangeSpec := { name := "fnHeldAndAboveSplicesTemplate", fn := fun _ => fun
  | [d1, d2] => { results := [.lit (.bool false)], args := [d1, d2] }
  | _ => none }
def FnHeldAndAboveSplicesTemplateWrongFalsely : Prop := fnHeldAndAboveSplicesTemplateRow.holds Try.pinned (OpenSpec.ofChange fnHeldAndAboveSplicesTemplateWrong)

/-- 'zzlaws_store_b1.FnHeldAndAboveThroughRelationColumns': WHATEVER THE INPUT: true; the input reads as it did. -/
def fnHeldAndAboveThroughRelationColumnsSpec : ChangeSpec := { name := "fnHeldAndAboveThroughRelationColumns", fn := fun _ => fun
  | [d1, d2] => { results := [.lit (.bool true)], args := [d1, d2] }
  | _ => none }
def fnHeldAndAboveThroughRelationColumnsRow : OpenClaim := { program := "qxb6605274a", sum := "df12c197f26d1d9729d264308ea5ee5115df03c0e91dc47ea89ed19c728d5cf1", func := "example.com/fuda/fuda/zzlaws_store_b1.FnHeldAndAboveThroughRelationColumns", spec := "fnHeldAndAboveThroughRelationColumns", apart := false }
def FnHeldAndAboveThroughRelationColumnsSaid : Prop := fnHeldAndAboveThroughRelationColumnsRow.holds Try.pinned (OpenSpec.ofChange fnHeldAndAboveThroughRelationColumnsSpec)

/-- ITS FALSE NEIGHBOUR: 'it returns false'. Refute it at one input. -/
def fnHeldAndAboveThroughRelationColumnsWrong : ChangeSpec := { name := "fnHeldAndAboveThroughRelationColumns", fn := fun _ => fun
  | [d1, d2] => { results := [.lit (.bool false)], args := [d1, d2] }
  | _ => none }
def FnHeldAndAboveThroughRelationColumnsWrongFalsely : Prop := fnHeldAndAboveThroughRelationColumnsRow.holds Try.pinned (OpenSpec.ofChange fnHeldAndAboveThroughRelationColumnsWrong)

end Rows
end Go.Proofs.Qxb6605274a
