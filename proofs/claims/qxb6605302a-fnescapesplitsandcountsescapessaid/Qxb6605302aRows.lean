/-
  No cell of these rows narrows 'for every input' (looked for: loops, veiled, ifaces, maps, wideKeys, modest, calm, conditions, laid).
  DERIVED. THE GIVEN ROWS OF THIS SEAT. 3 by the template 'for every input the law returns true; each argument reads behind the call as it read before'; 0 by the template 'total and deterministic' (their statements: Qxb6605302aTotals.lean).
  GIVEN WITH THE SEED: the statements are not yours to turn. If you find one false, say at which input.
  Laid BY PROGRAM, IN A SANDBOX (cutbox-rows.mjs): the forced cells as the released guide's own fill.sh prints them over the translation 3f13dfa3cc63c3a5… (all of the seat's roots in one cut). By AI agents, Wed Nov 11 2026. No macro, syntax, notation, axiom, sorry.
-/
import Derived.Test.Qxb6605302aChecked
import GoSem.Claim
import GoSem.ClaimJoined
import GoSem.ClaimMapViews
import Derived.JoinedTies
import Derived.KernelRfl
namespace Go.Proofs.Qxb6605302a
/- THE CELL 'sum', in the pinned program and in every row, IS THE sha256 OF THE DUMP (.gsa) THAT Qxb6605302aProg.lean LOADS. Nothing in Lean hashes anything: it is a label: what it is worth is what the hold of that sum in a sandbox is worth. -/
noncomputable def Try.pinned : Pinned := { name := "qxb6605302a", sum := "3f13dfa3cc63c3a5fc47af5cbe2b9f54e3aa8a908c3c201c47d23adf2256c517", checked := Try.checked }
namespace Rows
def none {H : Type} : Left H := { results := [], args := [] }

/-- 'zzlaws_internal_captive_b1.FnEscapeDecodesBackCanonically': WHATEVER THE INPUT: true; the input reads as it did. -/
def fnEscapeDecodesBackCanonicallySpec : ChangeSpec := { name := "fnEscapeDecodesBackCanonically", fn := fun _ => fun
  | [d] => { results := [.lit (.bool true)], args := [d] }
  | _ => none }
def fnEscapeDecodesBackCanonicallyRow : OpenClaim := { program := "qxb6605302a", sum := "3f13dfa3cc63c3a5fc47af5cbe2b9f54e3aa8a908c3c201c47d23adf2256c517", func := "example.com/spanwave/spanwave/zzlaws_internal_captive_b1.FnEscapeDecodesBackCanonically", spec := "fnEscapeDecodesBackCanonically", inPlace := ["internal/abi.NoEscape", "internal/bytealg.MakeNoZero"], apart := false }
def FnEscapeDecodesBackCanonicallySaid : Prop := fnEscapeDecodesBackCanonicallyRow.holds Try.pinned (OpenSpec.ofChange fnEscapeDecodesBackCanonicallySpec)

/-- ITS FALSE NEIGHBOUR: 'it returns false'. Refute it at one input. -/
def fnEscapeDecodesBackCanonicallyWrong : ChangeSpec := { name := "fnEscapeDecodesBackCanonically", fn := fun _ => fun
  | [d] => { results := [.lit (.bool false)], args := [d] }
  | _ => none }
def FnEscapeDecodesBackCanonicallyWrongFalsely : Prop := fnEscapeDecodesBackCanonicallyRow.holds Try.pinned (OpenSpec.ofChange fnEscapeDecodesBackCanonicallyWrong)

/-- 'zzlaws_internal_captive_b1.FnEscapeSplitsAndCountsEscapes': WHATEVER THE INPUT: true; the input reads as it did. -/
def fnEscapeSplitsAndCountsEscapesSpec : ChangeSpec := { name := "fnEscapeSplitsAndCountsEscapes", fn := fun _ => fun
  | [d1, d2] => { results := [.lit (.bool true)], args := [d1, d2] }
  | _ => none }
def fnEscapeSplitsAndCountsEscapesRow : OpenClaim := { program := "qxb6605302a", sum := "3f13dfa3cc63c3a5fc47af5cbe2b9f54e3aa8a908c3c201c47d23adf2256c517", func := "example.com/spanwave/spanwave/zzlaws_internal_captive_b1.FnEscapeSplitsAndCountsEscapes", spec := "fnEscapeSplitsAndCountsEscapes", inPlace := ["internal/abi.NoEscape", "internal/bytealg.MakeNoZero"], apart := false }
def FnEscapeSplitsAndCountsEscapesSaid : Prop := fnEscapeSplitsAndCountsEscapesRow.holds Try.pinned (OpenSpec.ofChange fnEscapeSplitsAndCountsEscapesSpec)

/-- ITS FALSE NEIGHBOUR: 'it returns false'. Refute it at one input. -/
def fnEscapeSplitsAndCountsEscapesWrong : ChangeSpec := { name := "fnEscapeSplitsAndCountsEscapes", fn := fun _ => fun
  | [d1, d2] => { results := [.lit (.bool false)], args := [d1, d2] }
  | _ => none }
def FnEscapeSplitsAndCountsEscapesWrongFalsely : Prop := fnEscapeSplitsAndCountsEscapesRow.holds Try.pinned (OpenSpec.ofChange fnEscapeSplitsAndCountsEscapesWrong)

/-- 'zzlaws_internal_captive_b1.FnJoinInStepsAgreesWithJoinAtOnce': WHATEVER THE INPUT: true; the input reads as it did. -/
def fnJoinInStepsAgreesWithJoinAtOnceSpec : ChangeSpec := { name := "fnJoinInStepsAgreesWithJoinAtOnce", fn := fun _ => fun
  | [d1, d2, d3] => { results := [.lit (.bool true)], args := [d1, d2, d3] }
  | _ => none }
def fnJoinInStepsAgreesWithJoinAtOnceRow : OpenClaim := { program := "qxb6605302a", sum := "3f13dfa3cc63c3a5fc47af5cbe2b9f54e3aa8a908c3c201c47d23adf2256c517", func := "example.com/spanwave/spanwave/zzlaws_internal_captive_b1.FnJoinInStepsAgreesWithJoinAtOnce", spec := "fnJoinInStepsAgreesWithJoinAtOnce", inPlace := ["internal/bytealg.IndexByteString", "internal/bytealg.IndexString", "internal/abi.NoEscape", "internal/bytealg.MakeNoZero"], named := ["internal/bytealg.MaxLen"], apart := false }
def FnJoinInStepsAgreesWithJoinAtOnceSaid : Prop := fnJoinInStepsAgreesWithJoinAtOnceRow.holds Try.pinned (OpenSpec.ofChange fnJoinInStepsAgreesWithJoinAtOnceSpec)

/-- ITS FALSE NEIGHBOUR: 'it returns false'. Refute it at one input. -/
def fnJoinInStepsAgreesWithJoinAtOnceWrong : ChangeSpec := { name := "fnJoinInStepsAgreesWithJoinAtOnce", fn := fun _ => fun
  | [d1, d2, d3] => { results := [.lit (.bool false)], args := [d1, d2, d3] }
  | _ => none }
def FnJoinInStepsAgreesWithJoinAtOnceWrongFalsely : Prop := fnJoinInStepsAgreesWithJoinAtOnceRow.holds Try.pinned (OpenSpec.ofChange fnJoinInStepsAgreesWithJoinAtOnceWrong)

end Rows
end Go.Proofs.Qxb6605302a
