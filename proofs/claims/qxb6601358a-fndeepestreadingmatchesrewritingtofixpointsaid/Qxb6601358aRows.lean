/-
  No cell of these rows narrows 'for every input' (looked for: loops, veiled, ifaces, maps, wideKeys, modest, calm, conditions, laid).
  DERIVED. THE GIVEN ROWS OF THIS SEAT. 6 by the template 'for every input the law returns true; each argument reads behind the call as it read before'; 0 by the template 'total and deterministic' (their statements: Qxb6601358aTotals.lean).
  GIVEN WITH THE SEED: the statements are not yours to turn. If you find one false, say at which input.
  Laid BY PROGRAM, IN A SANDBOX (cutbox-rows.mjs): the forced cells as the released guide's own fill.sh prints them over the translation 118c82a0a340d1ef… (all of the seat's roots in one cut). By AI agents, Wed Nov 11 2026. No macro, syntax, notation, axiom, sorry.
-/
import Derived.Test.Qxb6601358aChecked
import GoSem.Claim
import GoSem.ClaimJoined
import GoSem.ClaimMapViews
import Derived.JoinedTies
import Derived.KernelRfl
namespace Go.Proofs.Qxb6601358a
/- THE CELL 'sum', in the pinned program and in every row, IS THE sha256 OF THE DUMP (.gsa) THAT Qxb6601358aProg.lean LOADS. Nothing in Lean hashes anything: it is a label: what it is worth is what the hold of that sum in a sandbox is worth. -/
noncomputable def Try.pinned : Pinned := { name := "qxb6601358a", sum := "118c82a0a340d1ef1408ab4f74446cbfe325f607fa3d68b6cc1f56891aac32fa", checked := Try.checked }
namespace Rows
def none {H : Type} : Left H := { results := [], args := [] }

/-- 'zzlaws_internal_route_b1.FnOverlongASCIIMatchesEncodingSearch': WHATEVER THE INPUT: true; the input reads as it did. -/
def fnOverlongASCIIMatchesEncodingSearchSpec : ChangeSpec := { name := "fnOverlongASCIIMatchesEncodingSearch", fn := fun _ => fun
  | [d] => { results := [.lit (.bool true)], args := [d] }
  | _ => none }
def fnOverlongASCIIMatchesEncodingSearchRow : OpenClaim := { program := "qxb6601358a", sum := "118c82a0a340d1ef1408ab4f74446cbfe325f607fa3d68b6cc1f56891aac32fa", func := "example.com/shaar/shaar/zzlaws_internal_route_b1.FnOverlongASCIIMatchesEncodingSearch", spec := "fnOverlongASCIIMatchesEncodingSearch", apart := false }
def FnOverlongASCIIMatchesEncodingSearchSaid : Prop := fnOverlongASCIIMatchesEncodingSearchRow.holds Try.pinned (OpenSpec.ofChange fnOverlongASCIIMatchesEncodingSearchSpec)

/-- ITS FALSE NEIGHBOUR: 'it returns false'. Refute it at one input. -/
def fnOverlongASCIIMatchesEncodingSearchWrong : ChangeSpec := { name := "fnOverlongASCIIMatchesEncodingSearch", fn := fun _ => fun
  | [d] => { results := [.lit (.bool false)], args := [d] }
  | _ => none }
def FnOverlongASCIIMatchesEncodingSearchWrongFalsely : Prop := fnOverlongASCIIMatchesEncodingSearchRow.holds Try.pinned (OpenSpec.ofChange fnOverlongASCIIMatchesEncodingSearchWrong)

/-- 'zzlaws_internal_route_b1.FnOverlongASCIIAcceptsExactlyASCIIEncodings': WHATEVER THE INPUT: true; the input reads as it did. -/
def fnOverlongASCIIAcceptsExactlyASCIIEncodingsSpec : ChangeSpec := { name := "fnOverlongASCIIAcceptsExactlyASCIIEncodings", fn := fun _ => fun
  | [d1, d2, d3] => { results := [.lit (.bool true)], args := [d1, d2, d3] }
  | _ => none }
def fnOverlongASCIIAcceptsExactlyASCIIEncodingsRow : OpenClaim := { program := "qxb6601358a", sum := "118c82a0a340d1ef1408ab4f74446cbfe325f607fa3d68b6cc1f56891aac32fa", func := "example.com/shaar/shaar/zzlaws_internal_route_b1.FnOverlongASCIIAcceptsExactlyASCIIEncodings", spec := "fnOverlongASCIIAcceptsExactlyASCIIEncodings", apart := false }
def FnOverlongASCIIAcceptsExactlyASCIIEncodingsSaid : Prop := fnOverlongASCIIAcceptsExactlyASCIIEncodingsRow.holds Try.pinned (OpenSpec.ofChange fnOverlongASCIIAcceptsExactlyASCIIEncodingsSpec)

/-- ITS FALSE NEIGHBOUR: 'it returns false'. Refute it at one input. -/
def fnOverlongASCIIAcceptsExactlyASCIIEncodingsWrong : ChangeSpec := { name := "fnOverlongASCIIAcceptsExactlyASCIIEncodings", fn := fun _ => fun
  | [d1, d2, d3] => { results := [.lit (.bool false)], args := [d1, d2, d3] }
  | _ => none }
def FnOverlongASCIIAcceptsExactlyASCIIEncodingsWrongFalsely : Prop := fnOverlongASCIIAcceptsExactlyASCIIEncodingsRow.holds Try.pinned (OpenSpec.ofChange fnOverlongASCIIAcceptsExactlyASCIIEncodingsWrong)

/-- 'zzlaws_internal_route_b1.FnHoldsDotPartMatchesSplitModel': WHATEVER THE INPUT: true; the input reads as it did. -/
def fnHoldsDotPartMatchesSplitModelSpec : ChangeSpec := { name := "fnHoldsDotPartMatchesSplitModel", fn := fun _ => fun
  | [d] => { results := [.lit (.bool true)], args := [d] }
  | _ => none }
def fnHoldsDotPartMatchesSplitModelRow : OpenClaim := { program := "qxb6601358a", sum := "118c82a0a340d1ef1408ab4f74446cbfe325f607fa3d68b6cc1f56891aac32fa", func := "example.com/shaar/shaar/zzlaws_internal_route_b1.FnHoldsDotPartMatchesSplitModel", spec := "fnHoldsDotPartMatchesSplitModel", apart := false }
def FnHoldsDotPartMatchesSplitModelSaid : Prop := fnHoldsDotPartMatchesSplitModelRow.holds Try.pinned (OpenSpec.ofChange fnHoldsDotPartMatchesSplitModelSpec)

/-- ITS FALSE NEIGHBOUR: 'it returns false'. Refute it at one input. -/
def fnHoldsDotPartMatchesSplitModelWrong : ChangeSpec := { name := "fnHoldsDotPartMatchesSplitModel", fn := fun _ => fun
  | [d] => { results := [.lit (.bool false)], args := [d] }
  | _ => none }
def FnHoldsDotPartMatchesSplitModelWrongFalsely : Prop := fnHoldsDotPartMatchesSplitModelRow.holds Try.pinned (OpenSpec.ofChange fnHoldsDotPartMatchesSplitModelWrong)

/-- 'zzlaws_internal_route_b1.FnHoldsDotPartJoinsOverSeparator': WHATEVER THE INPUT: true; the input reads as it did. -/
def fnHoldsDotPartJoinsOverSeparatorSpec : ChangeSpec := { name := "fnHoldsDotPartJoinsOverSeparator", fn := fun _ => fun
  | [d1, d2, d3] => { results := [.lit (.bool true)], args := [d1, d2, d3] }
  | _ => none }
def fnHoldsDotPartJoinsOverSeparatorRow : OpenClaim := { program := "qxb6601358a", sum := "118c82a0a340d1ef1408ab4f74446cbfe325f607fa3d68b6cc1f56891aac32fa", func := "example.com/shaar/shaar/zzlaws_internal_route_b1.FnHoldsDotPartJoinsOverSeparator", spec := "fnHoldsDotPartJoinsOverSeparator", apart := false }
def FnHoldsDotPartJoinsOverSeparatorSaid : Prop := fnHoldsDotPartJoinsOverSeparatorRow.holds Try.pinned (OpenSpec.ofChange fnHoldsDotPartJoinsOverSeparatorSpec)

/-- ITS FALSE NEIGHBOUR: 'it returns false'. Refute it at one input. -/
def fnHoldsDotPartJoinsOverSeparatorWrong : ChangeSpec := { name := "fnHoldsDotPartJoinsOverSeparator", fn := fun _ => fun
  | [d1, d2, d3] => { results := [.lit (.bool false)], args := [d1, d2, d3] }
  | _ => none }
def FnHoldsDotPartJoinsOverSeparatorWrongFalsely : Prop := fnHoldsDotPartJoinsOverSeparatorRow.holds Try.pinned (OpenSpec.ofChange fnHoldsDotPartJoinsOverSeparatorWrong)

/-- 'zzlaws_internal_route_b1.FnDeepestReadingMatchesRewritingToFixpoint': WHATEVER THE INPUT: true; the input reads as it did. -/
def fnDeepestReadingMatchesRewritingToFixpointSpec : ChangeSpec := { name := "fnDeepestReadingMatchesRewritingToFixpoint", fn := fun _ => fun
  | [d1, d2] => { results := [.lit (.bool true)], args := [d1, d2] }
  | _ => none }
def fnDeepestReadingMatchesRewritingToFixpointRow : OpenClaim := { program := "qxb6601358a", sum := "118c82a0a340d1ef1408ab4f74446cbfe325f607fa3d68b6cc1f56891aac32fa", func := "example.com/shaar/shaar/zzlaws_internal_route_b1.FnDeepestReadingMatchesRewritingToFixpoint", spec := "fnDeepestReadingMatchesRewritingToFixpoint", apart := false }
def FnDeepestReadingMatchesRewritingToFixpointSaid : Prop := fnDeepestReadingMatchesRewritingToFixpointRow.holds Try.pinned (OpenSpec.ofChange fnDeepestReadingMatchesRewritingToFixpointSpec)

/-- ITS FALSE NEIGHBOUR: 'it returns false'. Refute it at one input. -/
def fnDeepestReadingMatchesRewritingToFixpointWrong : ChangeSpec := { name := "fnDeepestReadingMatchesRewritingToFixpoint", fn := fun _ => fun
  | [d1, d2] => { results := [.lit (.bool false)], args := [d1, d2] }
  | _ => none }
def FnDeepestReadingMatchesRewritingToFixpointWrongFalsely : Prop := fnDeepestReadingMatchesRewritingToFixpointRow.holds Try.pinned (OpenSpec.ofChange fnDeepestReadingMatchesRewritingToFixpointWrong)

/-- 'zzlaws_internal_route_b1.FnDeepestReadingIsIdempotent': WHATEVER THE INPUT: true; the input reads as it did. -/
def fnDeepestReadingIsIdempotentSpec : ChangeSpec := { name := "fnDeepestReadingIsIdempotent", fn := fun _ => fun
  | [d] => { results := [.lit (.bool true)], args := [d] }
  | _ => none }
def fnDeepestReadingIsIdempotentRow : OpenClaim := { program := "qxb6601358a", sum := "118c82a0a340d1ef1408ab4f74446cbfe325f607fa3d68b6cc1f56891aac32fa", func := "example.com/shaar/shaar/zzlaws_internal_route_b1.FnDeepestReadingIsIdempotent", spec := "fnDeepestReadingIsIdempotent", apart := false }
def FnDeepestReadingIsIdempotentSaid : Prop := fnDeepestReadingIsIdempotentRow.holds Try.pinned (OpenSpec.ofChange fnDeepestReadingIsIdempotentSpec)

/-- ITS FALSE NEIGHBOUR: 'it returns false'. Refute it at one input. -/
def fnDeepestReadingIsIdempotentWrong : ChangeSpec := { name := "fnDeepestReadingIsIdempotent", fn := fun _ => fun
  | [d] => { results := [.lit (.bool false)], args := [d] }
  | _ => none }
def FnDeepestReadingIsIdempotentWrongFalsely : Prop := fnDeepestReadingIsIdempotentRow.holds Try.pinned (OpenSpec.ofChange fnDeepestReadingIsIdempotentWrong)

end Rows
end Go.Proofs.Qxb6601358a
