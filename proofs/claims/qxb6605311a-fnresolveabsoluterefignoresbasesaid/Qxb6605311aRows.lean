/-
  No cell of these rows narrows 'for every input' (looked for: loops, veiled, ifaces, maps, wideKeys, modest, calm, conditions, laid).
  DERIVED. THE GIVEN ROWS OF THIS SEAT. 7 by the template 'for every input the law returns true; each argument reads behind the call as it read before'; 0 by the template 'total and deterministic' (their statements: Qxb6605311aTotals.lean).
  GIVEN WITH THE SEED: the statements are not yours to turn. If you find one false, say at which input.
  Laid BY PROGRAM, IN A SANDBOX (cutbox-rows.mjs): the forced cells as the released guide's own fill.sh prints them over the translation 4105a7bc8ad88b34… (all of the seat's roots in one cut). By AI agents, Wed Nov 11 2026. No macro, syntax, notation, axiom, sorry.
-/
import Derived.Test.Qxb6605311aChecked
import GoSem.Claim
import GoSem.ClaimJoined
import GoSem.ClaimMapViews
import Derived.JoinedTies
import Derived.KernelRfl
namespace Go.Proofs.Qxb6605311a
/- THE CELL 'sum', in the pinned program and in every row, IS THE sha256 OF THE DUMP (.gsa) THAT Qxb6605311aProg.lean LOADS. Nothing in Lean hashes anything: it is a label: what it is worth is what the hold of that sum in a sandbox is worth. -/
noncomputable def Try.pinned : Pinned := { name := "qxb6605311a", sum := "4105a7bc8ad88b3470cca7c16bb3767f60a1e47360b1ddceb92a3c331e82304b", checked := Try.checked }
namespace Rows
def none {H : Type} : Left H := { results := [], args := [] }

/-- 'zzlaws_pkg_turtle_b1.FnRemoveDotSegmentsMatchesSegmentStack': WHATEVER THE INPUT: true; the input reads as it did. -/
def fnRemoveDotSegmentsMatchesSegmentStackSpec : ChangeSpec := { name := "fnRemoveDotSegmentsMatchesSegmentStack", fn := fun _ => fun
  | [d] => { results := [.lit (.bool true)], args := [d] }
  | _ => none }
def fnRemoveDotSegmentsMatchesSegmentStackRow : OpenClaim := { program := "qxb6605311a", sum := "4105a7bc8ad88b3470cca7c16bb3767f60a1e47360b1ddceb92a3c331e82304b", func := "example.com/ravelin/ravelin/zzlaws_pkg_turtle_b1.FnRemoveDotSegmentsMatchesSegmentStack", spec := "fnRemoveDotSegmentsMatchesSegmentStack", inPlace := ["internal/abi.NoEscape", "internal/bytealg.IndexByteString"], apart := false }
def FnRemoveDotSegmentsMatchesSegmentStackSaid : Prop := fnRemoveDotSegmentsMatchesSegmentStackRow.holds Try.pinned (OpenSpec.ofChange fnRemoveDotSegmentsMatchesSegmentStackSpec)

/-- ITS FALSE NEIGHBOUR: 'it returns false'. Refute it at one input. -/
def fnRemoveDotSegmentsMatchesSegmentStackWrong : ChangeSpec := { name := "fnRemoveDotSegmentsMatchesSegmentStack", fn := fun _ => fun
  | [d] => { results := [.lit (.bool false)], args := [d] }
  | _ => none }
def FnRemoveDotSegmentsMatchesSegmentStackWrongFalsely : Prop := fnRemoveDotSegmentsMatchesSegmentStackRow.holds Try.pinned (OpenSpec.ofChange fnRemoveDotSegmentsMatchesSegmentStackWrong)

/-- 'zzlaws_pkg_turtle_b1.FnRemoveDotSegmentsShortensExactlyDottedPaths': WHATEVER THE INPUT: true; the input reads as it did. -/
def fnRemoveDotSegmentsShortensExactlyDottedPathsSpec : ChangeSpec := { name := "fnRemoveDotSegmentsShortensExactlyDottedPaths", fn := fun _ => fun
  | [d] => { results := [.lit (.bool true)], args := [d] }
  | _ => none }
def fnRemoveDotSegmentsShortensExactlyDottedPathsRow : OpenClaim := { program := "qxb6605311a", sum := "4105a7bc8ad88b3470cca7c16bb3767f60a1e47360b1ddceb92a3c331e82304b", func := "example.com/ravelin/ravelin/zzlaws_pkg_turtle_b1.FnRemoveDotSegmentsShortensExactlyDottedPaths", spec := "fnRemoveDotSegmentsShortensExactlyDottedPaths", inPlace := ["internal/abi.NoEscape", "internal/bytealg.IndexByteString"], apart := false }
def FnRemoveDotSegmentsShortensExactlyDottedPathsSaid : Prop := fnRemoveDotSegmentsShortensExactlyDottedPathsRow.holds Try.pinned (OpenSpec.ofChange fnRemoveDotSegmentsShortensExactlyDottedPathsSpec)

/-- ITS FALSE NEIGHBOUR: 'it returns false'. Refute it at one input. -/
def fnRemoveDotSegmentsShortensExactlyDottedPathsWrong : ChangeSpec := { name := "fnRemoveDotSegmentsShortensExactlyDottedPaths", fn := fun _ => fun
  | [d] => { results := [.lit (.bool false)], args := [d] }
  | _ => none }
def FnRemoveDotSegmentsShortensExactlyDottedPathsWrongFalsely : Prop := fnRemoveDotSegmentsShortensExactlyDottedPathsRow.holds Try.pinned (OpenSpec.ofChange fnRemoveDotSegmentsShortensExactlyDottedPathsWrong)

/-- 'zzlaws_pkg_turtle_b1.FnSplitIRIUniqueDecomposition': WHATEVER THE INPUT: true; the input reads as it did. -/
def fnSplitIRIUniqueDecompositionSpec : ChangeSpec := { name := "fnSplitIRIUniqueDecomposition", fn := fun _ => fun
  | [d] => { results := [.lit (.bool true)], args := [d] }
  | _ => none }
def fnSplitIRIUniqueDecompositionRow : OpenClaim := { program := "qxb6605311a", sum := "4105a7bc8ad88b3470cca7c16bb3767f60a1e47360b1ddceb92a3c331e82304b", func := "example.com/ravelin/ravelin/zzlaws_pkg_turtle_b1.FnSplitIRIUniqueDecomposition", spec := "fnSplitIRIUniqueDecomposition", inPlace := ["internal/bytealg.IndexByteString", "internal/bytealg.IndexString"], named := ["internal/bytealg.MaxLen"], apart := false }
def FnSplitIRIUniqueDecompositionSaid : Prop := fnSplitIRIUniqueDecompositionRow.holds Try.pinned (OpenSpec.ofChange fnSplitIRIUniqueDecompositionSpec)

/-- ITS FALSE NEIGHBOUR: 'it returns false'. Refute it at one input. -/
def fnSplitIRIUniqueDecompositionWrong : ChangeSpec := { name := "fnSplitIRIUniqueDecomposition", fn := fun _ => fun
  | [d] => { results := [.lit (.bool false)], args := [d] }
  | _ => none }
def FnSplitIRIUniqueDecompositionWrongFalsely : Prop := fnSplitIRIUniqueDecompositionRow.holds Try.pinned (OpenSpec.ofChange fnSplitIRIUniqueDecompositionWrong)

/-- 'zzlaws_pkg_turtle_b1.FnSplitIRIInvertsString': WHATEVER THE INPUT: true; the input reads as it did. -/
def fnSplitIRIInvertsStringSpec : ChangeSpec := { name := "fnSplitIRIInvertsString", fn := fun _ => fun
  | [d1, d2, d3, d4, d5, d6, d7, d8, d9] => { results := [.lit (.bool true)], args := [d1, d2, d3, d4, d5, d6, d7, d8, d9] }
  | _ => none }
def fnSplitIRIInvertsStringRow : OpenClaim := { program := "qxb6605311a", sum := "4105a7bc8ad88b3470cca7c16bb3767f60a1e47360b1ddceb92a3c331e82304b", func := "example.com/ravelin/ravelin/zzlaws_pkg_turtle_b1.FnSplitIRIInvertsString", spec := "fnSplitIRIInvertsString", inPlace := ["internal/abi.NoEscape", "internal/bytealg.IndexByteString", "internal/bytealg.IndexString"], named := ["internal/bytealg.MaxLen"], apart := false }
def FnSplitIRIInvertsStringSaid : Prop := fnSplitIRIInvertsStringRow.holds Try.pinned (OpenSpec.ofChange fnSplitIRIInvertsStringSpec)

/-- ITS FALSE NEIGHBOUR: 'it returns false'. Refute it at one input. -/
def fnSplitIRIInvertsStringWrong : ChangeSpec := { name := "fnSplitIRIInvertsString", fn := fun _ => fun
  | [d1, d2, d3, d4, d5, d6, d7, d8, d9] => { results := [.lit (.bool false)], args := [d1, d2, d3, d4, d5, d6, d7, d8, d9] }
  | _ => none }
def FnSplitIRIInvertsStringWrongFalsely : Prop := fnSplitIRIInvertsStringRow.holds Try.pinned (OpenSpec.ofChange fnSplitIRIInvertsStringWrong)

/-- 'zzlaws_pkg_turtle_b1.FnResolveSameDocumentRefs': WHATEVER THE INPUT: true; the input reads as it did. -/
def fnResolveSameDocumentRefsSpec : ChangeSpec := { name := "fnResolveSameDocumentRefs", fn := fun _ => fun
  | [d1, d2] => { results := [.lit (.bool true)], args := [d1, d2] }
  | _ => none }
def fnResolveSameDocumentRefsRow : OpenClaim := { program := "qxb6605311a", sum := "4105a7bc8ad88b3470cca7c16bb3767f60a1e47360b1ddceb92a3c331e82304b", func := "example.com/ravelin/ravelin/zzlaws_pkg_turtle_b1.FnResolveSameDocumentRefs", spec := "fnResolveSameDocumentRefs", inPlace := ["internal/bytealg.IndexByteString", "internal/bytealg.IndexString", "internal/abi.NoEscape"], named := ["internal/bytealg.MaxLen"], apart := false }
def FnResolveSameDocumentRefsSaid : Prop := fnResolveSameDocumentRefsRow.holds Try.pinned (OpenSpec.ofChange fnResolveSameDocumentRefsSpec)

/-- ITS FALSE NEIGHBOUR: 'it returns false'. Refute it at one input. -/
def fnResolveSameDocumentRefsWrong : ChangeSpec := { name := "fnResolveSameDocumentRefs", fn := fun _ => fun
  | [d1, d2] => { results := [.lit (.bool false)], args := [d1, d2] }
  | _ => none }
def FnResolveSameDocumentRefsWrongFalsely : Prop := fnResolveSameDocumentRefsRow.holds Try.pinned (OpenSpec.ofChange fnResolveSameDocumentRefsWrong)

/-- 'zzlaws_pkg_turtle_b1.FnResolveKeepsSchemeAndFragment': WHATEVER THE INPUT: true; the input reads as it did. -/
def fnResolveKeepsSchemeAndFragmentSpec : ChangeSpec := { name := "fnResolveKeepsSchemeAndFragment", fn := fun _ => fun
  | [d1, d2] => { results := [.lit (.bool true)], args := [d1, d2] }
  | _ => none }
def fnResolveKeepsSchemeAndFragmentRow : OpenClaim := { program := "qxb6605311a", sum := "4105a7bc8ad88b3470cca7c16bb3767f60a1e47360b1ddceb92a3c331e82304b", func := "example.com/ravelin/ravelin/zzlaws_pkg_turtle_b1.FnResolveKeepsSchemeAndFragment", spec := "fnResolveKeepsSchemeAndFragment", inPlace := ["internal/bytealg.IndexByteString", "internal/bytealg.IndexString", "internal/abi.NoEscape"], named := ["internal/bytealg.MaxLen"], apart := false }
def FnResolveKeepsSchemeAndFragmentSaid : Prop := fnResolveKeepsSchemeAndFragmentRow.holds Try.pinned (OpenSpec.ofChange fnResolveKeepsSchemeAndFragmentSpec)

/-- ITS FALSE NEIGHBOUR: 'it returns false'. Refute it at one input. -/
def fnResolveKeepsSchemeAndFragmentWrong : ChangeSpec := { name := "fnResolveKeepsSchemeAndFragment", fn := fun _ => fun
  | [d1, d2] => { results := [.lit (.bool false)], args := [d1, d2] }
  | _ => none }
def FnResolveKeepsSchemeAndFragmentWrongFalsely : Prop := fnResolveKeepsSchemeAndFragmentRow.holds Try.pinned (OpenSpec.ofChange fnResolveKeepsSchemeAndFragmentWrong)

/-- 'zzlaws_pkg_turtle_b1.FnResolveAbsoluteRefIgnoresBase': WHATEVER THE INPUT: true; the input reads as it did. -/
def fnResolveAbsoluteRefIgnoresBaseSpec : ChangeSpec := { name := "fnResolveAbsoluteRefIgnoresBase", fn := fun _ => fun
  | [d1, d2, d3] => { results := [.lit (.bool true)], args := [d1, d2, d3] }
  | _ => none }
def fnResolveAbsoluteRefIgnoresBaseRow : OpenClaim := { program := "qxb6605311a", sum := "4105a7bc8ad88b3470cca7c16bb3767f60a1e47360b1ddceb92a3c331e82304b", func := "example.com/ravelin/ravelin/zzlaws_pkg_turtle_b1.FnResolveAbsoluteRefIgnoresBase", spec := "fnResolveAbsoluteRefIgnoresBase", inPlace := ["internal/bytealg.IndexByteString", "internal/bytealg.IndexString", "internal/abi.NoEscape"], named := ["internal/bytealg.MaxLen"], apart := false }
def FnResolveAbsoluteRefIgnoresBaseSaid : Prop := fnResolveAbsoluteRefIgnoresBaseRow.holds Try.pinned (OpenSpec.ofChange fnResolveAbsoluteRefIgnoresBaseSpec)

/-- ITS FALSE NEIGHBOUR: 'it returns false'. Refute it at one input. -/
def fnResolveAbsoluteRefIgnoresBaseWrong : ChangeSpec := { name := "fnResolveAbsoluteRefIgnoresBase", fn := fun _ => fun
  | [d1, d2, d3] => { results := [.lit (.bool false)], args := [d1, d2, d3] }
  | _ => none }
def FnResolveAbsoluteRefIgnoresBaseWrongFalsely : Prop := fnResolveAbsoluteRefIgnoresBaseRow.holds Try.pinned (OpenSpec.ofChange fnResolveAbsoluteRefIgnoresBaseWrong)

end Rows
end Go.Proofs.Qxb6605311a
