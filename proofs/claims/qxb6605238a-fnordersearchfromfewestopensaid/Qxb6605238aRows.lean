/-
  No cell of these rows narrows 'for every input' (looked for: loops, veiled, ifaces, maps, wideKeys, modest, calm, conditions, laid).
  DERIVED. THE GIVEN ROWS OF THIS SEAT. 2 by the template 'for every input the law returns true; each argument reads behind the call as it read before'; 0 by the template 'total and deterministic' (their statements: Qxb6605238aTotals.lean).
  GIVEN WITH THE SEED: the statements are not yours to turn. If you find one false, say at which input.
  Laid BY PROGRAM, IN A SANDBOX (cutbox-rows.mjs): the forced cells as the released guide's own fill.sh prints them over the translation b4e753bb984aebc9… (all of the seat's roots in one cut). By AI agents, Wed Nov 11 2026. No macro, syntax, notation, axiom, sorry.
-/
import Derived.Test.Qxb6605238aChecked
import GoSem.Claim
import GoSem.ClaimJoined
import GoSem.ClaimMapViews
import Derived.JoinedTies
import Derived.KernelRfl
namespace Go.Proofs.Qxb6605238a
/- THE CELL 'sum', in the pinned program and in every row, IS THE sha256 OF THE DUMP (.gsa) THAT Qxb6605238aProg.lean LOADS. Nothing in Lean hashes anything: it is a label: what it is worth is what the hold of that sum in a sandbox is worth. -/
noncomputable def Try.pinned : Pinned := { name := "qxb6605238a", sum := "b4e753bb984aebc97ec05f7f7c28eedef9b90d09907e90b9f0226912876d7b04", checked := Try.checked }
namespace Rows
def none {H : Type} : Left H := { results := [], args := [] }

/-- 'zzlaws_root_b1.FnOrderSearchFromFewestOpen': WHATEVER THE INPUT: true; the input reads as it did. -/
def fnOrderSearchFromFewestOpenSpec : ChangeSpec := { name := "fnOrderSearchFromFewestOpen", fn := fun _ => fun
  | [d1, d2, d3, d4, d5, d6, d7, d8, d9] => { results := [.lit (.bool true)], args := [d1, d2, d3, d4, d5, d6, d7, d8, d9] }
  | _ => none }
def fnOrderSearchFromFewestOpenRow : OpenClaim := { program := "qxb6605238a", sum := "b4e753bb984aebc97ec05f7f7c28eedef9b90d09907e90b9f0226912876d7b04", func := "example.com/quorumsmith/quorumsmith/zzlaws_root_b1.FnOrderSearchFromFewestOpen", spec := "fnOrderSearchFromFewestOpen", apart := false }
def FnOrderSearchFromFewestOpenSaid : Prop := fnOrderSearchFromFewestOpenRow.holds Try.pinned (OpenSpec.ofChange fnOrderSearchFromFewestOpenSpec)

/-- ITS FALSE NEIGHBOUR: 'it returns false'. Refute it at one input. -/
def fnOrderSearchFromFewestOpenWrong : ChangeSpec := { name := "fnOrderSearchFromFewestOpen", fn := fun _ => fun
  | [d1, d2, d3, d4, d5, d6, d7, d8, d9] => { results := [.lit (.bool false)], args := [d1, d2, d3, d4, d5, d6, d7, d8, d9] }
  | _ => none }
def FnOrderSearchFromFewestOpenWrongFalsely : Prop := fnOrderSearchFromFewestOpenRow.holds Try.pinned (OpenSpec.ofChange fnOrderSearchFromFewestOpenWrong)

/-- 'zzlaws_root_b1.FnFirstUnreachedByBreadth': WHATEVER THE INPUT: true; the input reads as it did. -/
def fnFirstUnreachedByBreadthSpec : ChangeSpec := { name := "fnFirstUnreachedByBreadth", fn := fun _ => fun
  | [d1, d2] => { results := [.lit (.bool true)], args := [d1, d2] }
  | _ => none }
def fnFirstUnreachedByBreadthRow : OpenClaim := { program := "qxb6605238a", sum := "b4e753bb984aebc97ec05f7f7c28eedef9b90d09907e90b9f0226912876d7b04", func := "example.com/quorumsmith/quorumsmith/zzlaws_root_b1.FnFirstUnreachedByBreadth", spec := "fnFirstUnreachedByBreadth", apart := false }
def FnFirstUnreachedByBreadthSaid : Prop := fnFirstUnreachedByBreadthRow.holds Try.pinned (OpenSpec.ofChange fnFirstUnreachedByBreadthSpec)

/-- ITS FALSE NEIGHBOUR: 'it returns false'. Refute it at one input. -/
def fnFirstUnreachedByBreadthWrong : ChangeSpec := { name := "fnFirstUnreachedByBreadth", fn := fun _ => fun
  | [d1, d2] => { results := [.lit (.bool false)], args := [d1, d2] }
  | _ => none }
def FnFirstUnreachedByBreadthWrongFalsely : Prop := fnFirstUnreachedByBreadthRow.holds Try.pinned (OpenSpec.ofChange fnFirstUnreachedByBreadthWrong)

end Rows
end Go.Proofs.Qxb6605238a
