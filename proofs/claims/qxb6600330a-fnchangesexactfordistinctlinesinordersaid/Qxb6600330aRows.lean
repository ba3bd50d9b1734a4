/-
  No cell of these rows narrows 'for every input' (looked for: loops, veiled, ifaces, maps, wideKeys, modest, calm, conditions, laid).
  DERIVED. THE GIVEN ROWS OF THIS SEAT. 8 by the template 'for every input the law returns true; each argument reads behind the call as it read before'; 0 by the template 'total and deterministic' (their statements: Qxb6600330aTotals.lean).
  GIVEN WITH THE SEED: the statements are not yours to turn. If you find one false, say at which input.
  Laid BY PROGRAM, IN A SANDBOX (cutbox-rows.mjs): the forced cells as the released guide's own fill.sh prints them over the translation dcb412de6b28ed8e… (all of the seat's roots in one cut). By AI agents, Wed Nov 11 2026. No macro, syntax, notation, axiom, sorry.
-/
import Derived.Test.Qxb6600330aChecked
import GoSem.Claim
import GoSem.ClaimJoined
import GoSem.ClaimMapViews
import Derived.JoinedTies
import Derived.KernelRfl
namespace Go.Proofs.Qxb6600330a
/- THE CELL 'sum', in the pinned program and in every row, IS THE sha256 OF THE DUMP (.gsa) THAT Qxb6600330aProg.lean LOADS. Nothing in Lean hashes anything: it is a label: what it is worth is what the hold of that sum in a sandbox is worth. -/
noncomputable def Try.pinned : Pinned := { name := "qxb6600330a", sum := "dcb412de6b28ed8e6e40414e9b743cbd43ce5612a687aa1125c52ca89fd5777b", checked := Try.checked }
namespace Rows
def none {H : Type} : Left H := { results := [], args := [] }

/-- 'zzlaws_linediff_b1.FnCompareExactForDistinctValuesInOrder': WHATEVER THE INPUT: true; the input reads as it did. -/
def fnCompareExactForDistinctValuesInOrderSpec : ChangeSpec := { name := "fnCompareExactForDistinctValuesInOrder", fn := fun _ => fun
  | [d1, d2, d3] => { results := [.lit (.bool true)], args := [d1, d2, d3] }
  | _ => none }
def fnCompareExactForDistinctValuesInOrderRow : OpenClaim := { program := "qxb6600330a", sum := "dcb412de6b28ed8e6e40414e9b743cbd43ce5612a687aa1125c52ca89fd5777b", func := "example.com/hermod/hermod/zzlaws_linediff_b1.FnCompareExactForDistinctValuesInOrder", spec := "fnCompareExactForDistinctValuesInOrder", recurses := true, apart := false }
def FnCompareExactForDistinctValuesInOrderSaid : Prop := fnCompareExactForDistinctValuesInOrderRow.holds Try.pinned (OpenSpec.ofChange fnCompareExactForDistinctValuesInOrderSpec)

/-- ITS FALSE NEIGHBOUR: 'it returns false'. Refute it at one input. -/
def fnCompareExactForDistinctValuesInOrderWrong : ChangeSpec := { name := "fnCompareExactForDistinctValuesInOrder", fn := fun _ => fun
  | [d1, d2, d3] => { results := [.lit (.bool false)], args := [d1, d2, d3] }
  | _ => none }
def FnCompareExactForDistinctValuesInOrderWrongFalsely : Prop := fnCompareExactForDistinctValuesInOrderRow.holds Try.pinned (OpenSpec.ofChange fnCompareExactForDistinctValuesInOrderWrong)

/-- 'zzlaws_linediff_b1.FnCompareKeepsLongestCommonSubsequence': WHATEVER THE INPUT: true; the input reads as it did. -/
def fnCompareKeepsLongestCommonSubsequenceSpec : ChangeSpec := { name := "fnCompareKeepsLongestCommonSubsequence", fn := fun _ => fun
  | [d1, d2, d3] => { results := [.lit (.bool true)], args := [d1, d2, d3] }
  | _ => none }
def fnCompareKeepsLongestCommonSubsequenceRow : OpenClaim := { program := "qxb6600330a", sum := "dcb412de6b28ed8e6e40414e9b743cbd43ce5612a687aa1125c52ca89fd5777b", func := "example.com/hermod/hermod/zzlaws_linediff_b1.FnCompareKeepsLongestCommonSubsequence", spec := "fnCompareKeepsLongestCommonSubsequence", recurses := true, apart := false }
def FnCompareKeepsLongestCommonSubsequenceSaid : Prop := fnCompareKeepsLongestCommonSubsequenceRow.holds Try.pinned (OpenSpec.ofChange fnCompareKeepsLongestCommonSubsequenceSpec)

/-- ITS FALSE NEIGHBOUR: 'it returns false'. Refute it at one input. -/
def fnCompareKeepsLongestCommonSubsequenceWrong : ChangeSpec := { name := "fnCompareKeepsLongestCommonSubsequence", fn := fun _ => fun
  | [d1, d2, d3] => { results := [.lit (.bool false)], args := [d1, d2, d3] }
  | _ => none }
def FnCompareKeepsLongestCommonSubsequenceWrongFalsely : Prop := fnCompareKeepsLongestCommonSubsequenceRow.holds Try.pinned (OpenSpec.ofChange fnCompareKeepsLongestCommonSubsequenceWrong)

/-- 'zzlaws_linediff_b1.FnCompareSeesOnlyEquality': WHATEVER THE INPUT: true; the input reads as it did. -/
def fnCompareSeesOnlyEqualitySpec : ChangeSpec := { name := "fnCompareSeesOnlyEquality", fn := fun _ => fun
  | [d1, d2, d3, d4] => { results := [.lit (.bool true)], args := [d1, d2, d3, d4] }
  | _ => none }
def fnCompareSeesOnlyEqualityRow : OpenClaim := { program := "qxb6600330a", sum := "dcb412de6b28ed8e6e40414e9b743cbd43ce5612a687aa1125c52ca89fd5777b", func := "example.com/hermod/hermod/zzlaws_linediff_b1.FnCompareSeesOnlyEquality", spec := "fnCompareSeesOnlyEquality", recurses := true, apart := false }
def FnCompareSeesOnlyEqualitySaid : Prop := fnCompareSeesOnlyEqualityRow.holds Try.pinned (OpenSpec.ofChange fnCompareSeesOnlyEqualitySpec)

/-- ITS FALSE NEIGHBOUR: 'it returns false'. Refute it at one input. -/
def fnCompareSeesOnlyEqualityWrong : ChangeSpec := { name := "fnCompareSeesOnlyEquality", fn := fun _ => fun
  | [d1, d2, d3, d4] => { results := [.lit (.bool false)], args := [d1, d2, d3, d4] }
  | _ => none }
def FnCompareSeesOnlyEqualityWrongFalsely : Prop := fnCompareSeesOnlyEqualityRow.holds Try.pinned (OpenSpec.ofChange fnCompareSeesOnlyEqualityWrong)

/-- 'zzlaws_linediff_b1.FnSplitOnAPathOfFewestEdits': WHATEVER THE INPUT: true; the input reads as it did. -/
def fnSplitOnAPathOfFewestEditsSpec : ChangeSpec := { name := "fnSplitOnAPathOfFewestEdits", fn := fun _ => fun
  | [d1, d2, d3] => { results := [.lit (.bool true)], args := [d1, d2, d3] }
  | _ => none }
def fnSplitOnAPathOfFewestEditsRow : OpenClaim := { program := "qxb6600330a", sum := "dcb412de6b28ed8e6e40414e9b743cbd43ce5612a687aa1125c52ca89fd5777b", func := "example.com/hermod/hermod/zzlaws_linediff_b1.FnSplitOnAPathOfFewestEdits", spec := "fnSplitOnAPathOfFewestEdits", apart := false }
def FnSplitOnAPathOfFewestEditsSaid : Prop := fnSplitOnAPathOfFewestEditsRow.holds Try.pinned (OpenSpec.ofChange fnSplitOnAPathOfFewestEditsSpec)

/-- ITS FALSE NEIGHBOUR: 'it returns false'. Refute it at one input. -/
def fnSplitOnAPathOfFewestEditsWrong : ChangeSpec := { name := "fnSplitOnAPathOfFewestEdits", fn := fun _ => fun
  | [d1, d2, d3] => { results := [.lit (.bool false)], args := [d1, d2, d3] }
  | _ => none }
def FnSplitOnAPathOfFewestEditsWrongFalsely : Prop := fnSplitOnAPathOfFewestEditsRow.holds Try.pinned (OpenSpec.ofChange fnSplitOnAPathOfFewestEditsWrong)

/-- 'zzlaws_linediff_b1.FnSplitStepsStrictlyInsideAtAnyCost': WHATEVER THE INPUT: true; the input reads as it did. -/
def fnSplitStepsStrictlyInsideAtAnyCostSpec : ChangeSpec := { name := "fnSplitStepsStrictlyInsideAtAnyCost", fn := fun _ => fun
  | [d1, d2, d3] => { results := [.lit (.bool true)], args := [d1, d2, d3] }
  | _ => none }
def fnSplitStepsStrictlyInsideAtAnyCostRow : OpenClaim := { program := "qxb6600330a", sum := "dcb412de6b28ed8e6e40414e9b743cbd43ce5612a687aa1125c52ca89fd5777b", func := "example.com/hermod/hermod/zzlaws_linediff_b1.FnSplitStepsStrictlyInsideAtAnyCost", spec := "fnSplitStepsStrictlyInsideAtAnyCost", apart := false }
def FnSplitStepsStrictlyInsideAtAnyCostSaid : Prop := fnSplitStepsStrictlyInsideAtAnyCostRow.holds Try.pinned (OpenSpec.ofChange fnSplitStepsStrictlyInsideAtAnyCostSpec)

/-- ITS FALSE NEIGHBOUR: 'it returns false'. Refute it at one input. -/
def fnSplitStepsStrictlyInsideAtAnyCostWrong : ChangeSpec := { name := "fnSplitStepsStrictlyInsideAtAnyCost", fn := fun _ => fun
  | [d1, d2, d3] => { results := [.lit (.bool false)], args := [d1, d2, d3] }
  | _ => none }
def FnSplitStepsStrictlyInsideAtAnyCostWrongFalsely : Prop := fnSplitStepsStrictlyInsideAtAnyCostRow.holds Try.pinned (OpenSpec.ofChange fnSplitStepsStrictlyInsideAtAnyCostWrong)

/-- 'zzlaws_linediff_b1.FnChangesExactForDistinctLinesInOrder': WHATEVER THE INPUT: true; the input reads as it did. -/
def fnChangesExactForDistinctLinesInOrderSpec : ChangeSpec := { name := "fnChangesExactForDistinctLinesInOrder", fn := fun _ => fun
  | [d1, d2, d3] => { results := [.lit (.bool true)], args := [d1, d2, d3] }
  | _ => none }
def fnChangesExactForDistinctLinesInOrderRow : OpenClaim := { program := "qxb6600330a", sum := "dcb412de6b28ed8e6e40414e9b743cbd43ce5612a687aa1125c52ca89fd5777b", func := "example.com/hermod/hermod/zzlaws_linediff_b1.FnChangesExactForDistinctLinesInOrder", spec := "fnChangesExactForDistinctLinesInOrder", unfollowed := true, recurses := true, apart := false }
def FnChangesExactForDistinctLinesInOrderSaid : Prop := fnChangesExactForDistinctLinesInOrderRow.holds Try.pinned (OpenSpec.ofChange fnChangesExactForDistinctLinesInOrderSpec)

/-- ITS FALSE NEIGHBOUR: 'it returns false'. Refute it at one input. -/
def fnChangesExactForDistinctLinesInOrderWrong : ChangeSpec := { name := "fnChangesExactForDistinctLinesInOrder", fn := fun _ => fun
  | [d1, d2, d3] => { results := [.lit (.bool false)], args := [d1, d2, d3] }
  | _ => none }
def FnChangesExactForDistinctLinesInOrderWrongFalsely : Prop := fnChangesExactForDistinctLinesInOrderRow.holds Try.pinned (OpenSpec.ofChange fnChangesExactForDistinctLinesInOrderWrong)

/-- 'zzlaws_linediff_b1.FnChangesFewestLinesWhenSearchSuffices': WHATEVER THE INPUT: true; the input reads as it did. -/
def fnChangesFewestLinesWhenSearchSufficesSpec : ChangeSpec := { name := "fnChangesFewestLinesWhenSearchSuffices", fn := fun _ => fun
  | [d1, d2, d3] => { results := [.lit (.bool true)], args := [d1, d2, d3] }
  | _ => none }
def fnChangesFewestLinesWhenSearchSufficesRow : OpenClaim := { program := "qxb6600330a", sum := "dcb412de6b28ed8e6e40414e9b743cbd43ce5612a687aa1125c52ca89fd5777b", func := "example.com/hermod/hermod/zzlaws_linediff_b1.FnChangesFewestLinesWhenSearchSuffices", spec := "fnChangesFewestLinesWhenSearchSuffices", unfollowed := true, recurses := true, apart := false }
def FnChangesFewestLinesWhenSearchSufficesSaid : Prop := fnChangesFewestLinesWhenSearchSufficesRow.holds Try.pinned (OpenSpec.ofChange fnChangesFewestLinesWhenSearchSufficesSpec)

/-- ITS FALSE NEIGHBOUR: 'it returns false'. Refute it at one input. -/
def fnChangesFewestLinesWhenSearchSufficesWrong : ChangeSpec := { name := "fnChangesFewestLinesWhenSearchSuffices", fn := fun _ => fun
  | [d1, d2, d3] => { results := [.lit (.bool false)], args := [d1, d2, d3] }
  | _ => none }
def FnChangesFewestLinesWhenSearchSufficesWrongFalsely : Prop := fnChangesFewestLinesWhenSearchSufficesRow.holds Try.pinned (OpenSpec.ofChange fnChangesFewestLinesWhenSearchSufficesWrong)

/-- 'zzlaws_linediff_b1.FnChangesRebuildAfterAtAnyCost': WHATEVER THE INPUT: true; the input reads as it did. -/
def fnChangesRebuildAfterAtAnyCostSpec : ChangeSpec := { name := "fnChangesRebuildAfterAtAnyCost", fn := fun _ => fun
  | [d1, d2, d3] => { results := [.lit (.bool true)], args := [d1, d2, d3] }
  | _ => none }
def fnChangesRebuildAfterAtAnyCostRow : OpenClaim := { program := "qxb6600330a", sum := "dcb412de6b28ed8e6e40414e9b743cbd43ce5612a687aa1125c52ca89fd5777b", func := "example.com/hermod/hermod/zzlaws_linediff_b1.FnChangesRebuildAfterAtAnyCost", spec := "fnChangesRebuildAfterAtAnyCost", unfollowed := true, recurses := true, apart := false }
def FnChangesRebuildAfterAtAnyCostSaid : Prop := fnChangesRebuildAfterAtAnyCostRow.holds Try.pinned (OpenSpec.ofChange fnChangesRebuildAfterAtAnyCostSpec)

/-- ITS FALSE NEIGHBOUR: 'it returns false'. Refute it at one input. -/
def fnChangesRebuildAfterAtAnyCostWrong : ChangeSpec := { name := "fnChangesRebuildAfterAtAnyCost", fn := fun _ => fun
  | [d1, d2, d3] => { results := [.lit (.bool false)], args := [d1, d2, d3] }
  | _ => none }
def FnChangesRebuildAfterAtAnyCostWrongFalsely : Prop := fnChangesRebuildAfterAtAnyCostRow.holds Try.pinned (OpenSpec.ofChange fnChangesRebuildAfterAtAnyCostWrong)

end Rows
end Go.Proofs.Qxb6600330a
