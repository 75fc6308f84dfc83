/-
  No cell of these rows narrows 'for every input' (looked for: loops, veiled, ifaces, maps, wideKeys, modest, calm, conditions, laid).
  DERIVED. THE GIVEN ROWS OF THIS SEAT. 2 by the template 'for every input the law returns true; each argument reads behind the call as it read before'; 0 by the template 'total and deterministic' (their statements: Qxb6604105aTotals.lean).
  GIVEN WITH THE SEED: the statements are not yours to turn. If you find one false, say at which input.
  Laid BY PROGRAM, IN A SANDBOX (cutbox-rows.mjs): the forced cells as the released guide's own fill.sh prints them over the translation d2bf4154272bebcd… (all of the seat's roots in one cut). By AI agents, Wed Nov 11 2026. No macro, syntax, notation, axiom, sorry.
-/
import Derived.Test.Qxb6604105aChecked
import GoSem.Claim
import GoSem.ClaimJoined
import GoSem.ClaimMapViews
import Derived.JoinedTies
import Derived.KernelRfl
namespace Go.Proofs.Qxb6604105a
/- THE CELL 'sum', in the pinned program and in every row, IS THE sha256 OF THE DUMP (.gsa) THAT Qxb6604105aProg.lean LOADS. Nothing in Lean hashes anything: it is a label: what it is worth is what the hold of that sum in a sandbox is worth. -/
noncomputable def Try.pinned : Pinned := { name := "qxb6604105a", sum := "d2bf4154272bebcdd644d2b2c15a72725f14177896f6dbab3a6c4501f1178d29", checked := Try.checked }
namespace Rows
def none {H : Type} : Left H := { results := [], args := [] }

/-- 'zzlaws_root_b1.FnRemoveMatchesClipModel': WHATEVER THE INPUT: true; the input reads as it did. -/
def fnRemoveMatchesClipModelSpec : ChangeSpec := { name := "fnRemoveMatchesClipModel", fn := fun _ => fun
  | [d1, d2, d3, d4] => { results := [.lit (.bool true)], args := [d1, d2, d3, d4] }
  | _ => none }
def fnRemoveMatchesClipModelRow : OpenClaim := { program := "qxb6604105a", sum := "d2bf4154272bebcdd644d2b2c15a72725f14177896f6dbab3a6c4501f1178d29", func := "example.com/sealgram/sealgram/zzlaws_root_b1.FnRemoveMatchesClipModel", spec := "fnRemoveMatchesClipModel", apart := false }
def FnRemoveMatchesClipModelSaid : Prop := fnRemoveMatchesClipModelRow.holds Try.pinned (OpenSpec.ofChange fnRemoveMatchesClipModelSpec)

/-- ITS FALSE NEIGHBOUR: 'it returns false'. Refute it at one input. -/
def fnRemoveMatchesClipModelWrong : ChangeSpec := { name := "fnRemoveMatchesClipModel", fn := fun _ => fun
  | [d1, d2, d3, d4] => { results := [.lit (.bool false)], args := [d1, d2, d3, d4] }
  | _ => none }
def FnRemoveMatchesClipModelWrongFalsely : Prop := fnRemoveMatchesClipModelRow.holds Try.pinned (OpenSpec.ofChange fnRemoveMatchesClipModelWrong)

/-- 'zzlaws_root_b1.FnRemoveTakesExactlyTheFragmentsBytes': WHATEVER THE INPUT: true; the input reads as it did. -/
def fnRemoveTakesExactlyTheFragmentsBytesSpec : ChangeSpec := { name := "fnRemoveTakesExactlyTheFragmentsBytes", fn := fun _ => fun
  | [d1, d2, d3, d4] => { results := [.lit (.bool true)], args := [d1, d2, d3, d4] }
  | _ => none }
def fnRemoveTakesExactlyTheFragmentsBytesRow : OpenClaim := { program := "qxb6604105a", sum := "d2bf4154272bebcdd644d2b2c15a72725f14177896f6dbab3a6c4501f1178d29", func := "example.com/sealgram/sealgram/zzlaws_root_b1.FnRemoveTakesExactlyTheFragmentsBytes", spec := "fnRemoveTakesExactlyTheFragmentsBytes", apart := false }
def FnRemoveTakesExactlyTheFragmentsBytesSaid : Prop := fnRemoveTakesExactlyTheFragmentsBytesRow.holds Try.pinned (OpenSpec.ofChange fnRemoveTakesExactlyTheFragmentsBytesSpec)

/-- ITS FALSE NEIGHBOUR: 'it returns false'. Refute it at one input. -/
def fnRemoveTakesExactlyTheFragmentsBytesWrong : ChangeSpec := { name := "fnRemoveTakesExactlyTheFragmentsBytes", fn := fun _ => fun
  | [d1, d2, d3, d4] => { results := [.lit (.bool false)], args := [d1, d2, d3, d4] }
  | _ => none }
def FnRemoveTakesExactlyTheFragmentsBytesWrongFalsely : Prop := fnRemoveTakesExactlyTheFragmentsBytesRow.holds Try.pinned (OpenSpec.ofChange fnRemoveTakesExactlyTheFragmentsBytesWrong)

end Rows
end Go.Proofs.Qxb6604105a
