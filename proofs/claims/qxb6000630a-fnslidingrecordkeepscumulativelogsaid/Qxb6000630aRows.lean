/-
  No cell of these rows narrows 'for every input' (looked for: loops, veiled, ifaces, maps, wideKeys, modest, calm, conditions, laid).
  DERIVED. THE GIVEN ROWS OF THIS SEAT. 5 by the template 'for every input the law returns true; each argument reads behind the call as it read before'; 0 by the template 'total and deterministic' (their statements: Qxb6000630aTotals.lean).
  GIVEN WITH THE SEED: the statements are not yours to turn. If you find one false, say at which input.
  Laid BY PROGRAM, IN A SANDBOX (cutbox-rows.mjs): the forced cells as the released guide's own fill.sh prints them over the translation 53c3ee797e43ca42… (all of the seat's roots in one cut). By AI agents, Wed Nov 11 2026. No macro, syntax, notation, axiom, sorry.
-/
import Derived.Test.Qxb6000630aChecked
import GoSem.Claim
import GoSem.ClaimJoined
import GoSem.ClaimMapViews
import Derived.JoinedTies
import Derived.KernelRfl
namespace Go.Proofs.Qxb6000630a
/- THE CELL 'sum', in the pinned program and in every row, IS THE sha256 OF THE DUMP (.gsa) THAT Qxb6000630aProg.lean LOADS. Nothing in Lean hashes anything: it is a label: what it is worth is what the hold of that sum in a sandbox is worth. -/
noncomputable def Try.pinned : Pinned := { name := "qxb6000630a", sum := "53c3ee797e43ca42620a3dc14c5af0e9526e45fd0ec5051164107eb53910cd98", checked := Try.checked }
namespace Rows
def none {H : Type} : Left H := { results := [], args := [] }

/-- 'zzlaws_pkg_limiter_b1.FnWildcardMatchAgreesWithAllPlacements': WHATEVER THE INPUT: true; the input reads as it did. -/
def fnWildcardMatchAgreesWithAllPlacementsSpec : ChangeSpec := { name := "fnWildcardMatchAgreesWithAllPlacements", fn := fun _ => fun
  | [d1, d2] => { results := [.lit (.bool true)], args := [d1, d2] }
  | _ => none }
def fnWildcardMatchAgreesWithAllPlacementsRow : OpenClaim := { program := "qxb6000630a", sum := "53c3ee797e43ca42620a3dc14c5af0e9526e45fd0ec5051164107eb53910cd98", func := "example.com/request-rate-limiter/request-rate-limiter/zzlaws_pkg_limiter_b1.FnWildcardMatchAgreesWithAllPlacements", spec := "fnWildcardMatchAgreesWithAllPlacements", inPlace := ["internal/bytealg.IndexByteString", "internal/bytealg.IndexString"], named := ["internal/bytealg.MaxLen"], apart := false }
def FnWildcardMatchAgreesWithAllPlacementsSaid : Prop := fnWildcardMatchAgreesWithAllPlacementsRow.holds Try.pinned (OpenSpec.ofChange fnWildcardMatchAgreesWithAllPlacementsSpec)

/-- ITS FALSE NEIGHBOUR: 'it returns false'. Refute it at one input. -/
def fnWildcardMatchAgreesWithAllPlacementsWrong : ChangeSpec := { name := "fnWildcardMatchAgreesWithAllPlacements", fn := fun _ => fun
  | [d1, d2] => { results := [.lit (.bool false)], args := [d1, d2] }
  | _ => none }
def FnWildcardMatchAgreesWithAllPlacementsWrongFalsely : Prop := fnWildcardMatchAgreesWithAllPlacementsRow.holds Try.pinned (OpenSpec.ofChange fnWildcardMatchAgreesWithAllPlacementsWrong)

/-- 'zzlaws_pkg_limiter_b1.FnWildcardStarAbsorbsInsertAfterFirst': WHATEVER THE INPUT: true; the input reads as it did. -/
def fnWildcardStarAbsorbsInsertAfterFirstSpec : ChangeSpec := { name := "fnWildcardStarAbsorbsInsertAfterFirst", fn := fun _ => fun
  | [d1, d2, d3] => { results := [.lit (.bool true)], args := [d1, d2, d3] }
  | _ => none }
def fnWildcardStarAbsorbsInsertAfterFirstRow : OpenClaim := { program := "qxb6000630a", sum := "53c3ee797e43ca42620a3dc14c5af0e9526e45fd0ec5051164107eb53910cd98", func := "example.com/request-rate-limiter/request-rate-limiter/zzlaws_pkg_limiter_b1.FnWildcardStarAbsorbsInsertAfterFirst", spec := "fnWildcardStarAbsorbsInsertAfterFirst", inPlace := ["internal/bytealg.IndexByteString", "internal/bytealg.IndexString"], named := ["internal/bytealg.MaxLen"], apart := false }
def FnWildcardStarAbsorbsInsertAfterFirstSaid : Prop := fnWildcardStarAbsorbsInsertAfterFirstRow.holds Try.pinned (OpenSpec.ofChange fnWildcardStarAbsorbsInsertAfterFirstSpec)

/-- ITS FALSE NEIGHBOUR: 'it returns false'. Refute it at one input. -/
def fnWildcardStarAbsorbsInsertAfterFirstWrong : ChangeSpec := { name := "fnWildcardStarAbsorbsInsertAfterFirst", fn := fun _ => fun
  | [d1, d2, d3] => { results := [.lit (.bool false)], args := [d1, d2, d3] }
  | _ => none }
def FnWildcardStarAbsorbsInsertAfterFirstWrongFalsely : Prop := fnWildcardStarAbsorbsInsertAfterFirstRow.holds Try.pinned (OpenSpec.ofChange fnWildcardStarAbsorbsInsertAfterFirstWrong)

/-- 'zzlaws_pkg_limiter_b1.FnWildcardEmptyMiddlePartChangesNothing': WHATEVER THE INPUT: true; the input reads as it did. -/
def fnWildcardEmptyMiddlePartChangesNothingSpec : ChangeSpec := { name := "fnWildcardEmptyMiddlePartChangesNothing", fn := fun _ => fun
  | [d1, d2, d3] => { results := [.lit (.bool true)], args := [d1, d2, d3] }
  | _ => none }
def fnWildcardEmptyMiddlePartChangesNothingRow : OpenClaim := { program := "qxb6000630a", sum := "53c3ee797e43ca42620a3dc14c5af0e9526e45fd0ec5051164107eb53910cd98", func := "example.com/request-rate-limiter/request-rate-limiter/zzlaws_pkg_limiter_b1.FnWildcardEmptyMiddlePartChangesNothing", spec := "fnWildcardEmptyMiddlePartChangesNothing", inPlace := ["internal/bytealg.IndexByteString", "internal/bytealg.IndexString"], named := ["internal/bytealg.MaxLen"], apart := false }
def FnWildcardEmptyMiddlePartChangesNothingSaid : Prop := fnWildcardEmptyMiddlePartChangesNothingRow.holds Try.pinned (OpenSpec.ofChange fnWildcardEmptyMiddlePartChangesNothingSpec)

/-- ITS FALSE NEIGHBOUR: 'it returns false'. Refute it at one input. -/
def fnWildcardEmptyMiddlePartChangesNothingWrong : ChangeSpec := { name := "fnWildcardEmptyMiddlePartChangesNothing", fn := fun _ => fun
  | [d1, d2, d3] => { results := [.lit (.bool false)], args := [d1, d2, d3] }
  | _ => none }
def FnWildcardEmptyMiddlePartChangesNothingWrongFalsely : Prop := fnWildcardEmptyMiddlePartChangesNothingRow.holds Try.pinned (OpenSpec.ofChange fnWildcardEmptyMiddlePartChangesNothingWrong)

/-- 'zzlaws_pkg_limiter_b1.FnSlidingRecordKeepsCumulativeLog': WHATEVER THE INPUT: true; the input reads as it did. -/
def fnSlidingRecordKeepsCumulativeLogSpec : ChangeSpec := { name := "fnSlidingRecordKeepsCumulativeLog", fn := fun _ => fun
  | [d1, d2] => { results := [.lit (.bool true)], args := [d1, d2] }
  | _ => none }
def fnSlidingRecordKeepsCumulativeLogRow : OpenClaim := { program := "qxb6000630a", sum := "53c3ee797e43ca42620a3dc14c5af0e9526e45fd0ec5051164107eb53910cd98", func := "example.com/request-rate-limiter/request-rate-limiter/zzlaws_pkg_limiter_b1.FnSlidingRecordKeepsCumulativeLog", spec := "fnSlidingRecordKeepsCumulativeLog", apart := false }
def FnSlidingRecordKeepsCumulativeLogSaid : Prop := fnSlidingRecordKeepsCumulativeLogRow.holds Try.pinned (OpenSpec.ofChange fnSlidingRecordKeepsCumulativeLogSpec)

/-- ITS FALSE NEIGHBOUR: 'it returns false'. Refute it at one input. -/
def fnSlidingRecordKeepsCumulativeLogWrong : ChangeSpec := { name := "fnSlidingRecordKeepsCumulativeLog", fn := fun _ => fun
  | [d1, d2] => { results := [.lit (.bool false)], args := [d1, d2] }
  | _ => none }
def FnSlidingRecordKeepsCumulativeLogWrongFalsely : Prop := fnSlidingRecordKeepsCumulativeLogRow.holds Try.pinned (OpenSpec.ofChange fnSlidingRecordKeepsCumulativeLogWrong)

/-- 'zzlaws_pkg_limiter_b1.FnSlidingSplitEqualsSum': WHATEVER THE INPUT: true; the input reads as it did. -/
def fnSlidingSplitEqualsSumSpec : ChangeSpec := { name := "fnSlidingSplitEqualsSum", fn := fun _ => fun
  | [d1, d2, d3, d4, d5] => { results := [.lit (.bool true)], args := [d1, d2, d3, d4, d5] }
  | _ => none }
def fnSlidingSplitEqualsSumRow : OpenClaim := { program := "qxb6000630a", sum := "53c3ee797e43ca42620a3dc14c5af0e9526e45fd0ec5051164107eb53910cd98", func := "example.com/request-rate-limiter/request-rate-limiter/zzlaws_pkg_limiter_b1.FnSlidingSplitEqualsSum", spec := "fnSlidingSplitEqualsSum", apart := false }
def FnSlidingSplitEqualsSumSaid : Prop := fnSlidingSplitEqualsSumRow.holds Try.pinned (OpenSpec.ofChange fnSlidingSplitEqualsSumSpec)

/-- ITS FALSE NEIGHBOUR: 'it returns false'. Refute it at one input. -/
def fnSlidingSplitEqualsSumWrong : ChangeSpec := { name := "fnSlidingSplitEqualsSum", fn := fun _ => fun
  | [d1, d2, d3, d4, d5] => { results := [.lit (.bool false)], args := [d1, d2, d3, d4, d5] }
  | _ => none }
def FnSlidingSplitEqualsSumWrongFalsely : Prop := fnSlidingSplitEqualsSumRow.holds Try.pinned (OpenSpec.ofChange fnSlidingSplitEqualsSumWrong)

end Rows
end Go.Proofs.Qxb6000630a
