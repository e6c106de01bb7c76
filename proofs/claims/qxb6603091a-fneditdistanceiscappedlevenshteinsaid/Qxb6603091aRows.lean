/-
  No cell of these rows narrows 'for every input' (looked for: loops, veiled, ifaces, maps, wideKeys, modest, calm, conditions, laid).
  DERIVED. THE GIVEN ROWS OF THIS SEAT. 6 by the template 'for every input the law returns true; each argument reads behind the call as it read before'; 0 by the template 'total and deterministic' (their statements: Qxb6603091aTotals.lean).
  GIVEN WITH THE SEED: the statements are not yours to turn. If you find one false, say at which input.
  Laid BY PROGRAM, IN A SANDBOX (cutbox-rows.mjs): the forced cells as the released guide's own fill.sh prints them over the translation 4b0a3edcd4e356e8… (all of the seat's roots in one cut). By AI agents, Wed Nov 11 2026. No macro, syntax, notation, axiom, sorry.
-/
import Derived.Test.Qxb6603091aChecked
import GoSem.Claim
import GoSem.ClaimJoined
import GoSem.ClaimMapViews
import Derived.JoinedTies
import Derived.KernelRfl
namespace Go.Proofs.Qxb6603091a
/- THE CELL 'sum', in the pinned program and in every row, IS THE sha256 OF THE DUMP (.gsa) THAT Qxb6603091aProg.lean LOADS. Nothing in Lean hashes anything: it is a label: what it is worth is what the hold of that sum in a sandbox is worth. -/
noncomputable def Try.pinned : Pinned := { name := "qxb6603091a", sum := "4b0a3edcd4e356e8ec37d10ce5192dba847f4219e0bbd3f7a75851a115fa0a5f", checked := Try.checked }
namespace Rows
def none {H : Type} : Left H := { results := [], args := [] }

/-- 'zzlaws_root_b1.FnEditDistanceIsCappedLevenshtein': WHATEVER THE INPUT: true; the input reads as it did. -/
def fnEditDistanceIsCappedLevenshteinSpec : ChangeSpec := { name := "fnEditDistanceIsCappedLevenshtein", fn := fun _ => fun
  | [d1, d2, d3] => { results := [.lit (.bool true)], args := [d1, d2, d3] }
  | _ => none }
def fnEditDistanceIsCappedLevenshteinRow : OpenClaim := { program := "qxb6603091a", sum := "4b0a3edcd4e356e8ec37d10ce5192dba847f4219e0bbd3f7a75851a115fa0a5f", func := "example.com/prudent-access/prudent-access/zzlaws_root_b1.FnEditDistanceIsCappedLevenshtein", spec := "fnEditDistanceIsCappedLevenshtein", recurses := true, apart := false }
def FnEditDistanceIsCappedLevenshteinSaid : Prop := fnEditDistanceIsCappedLevenshteinRow.holds Try.pinned (OpenSpec.ofChange fnEditDistanceIsCappedLevenshteinSpec)

/-- ITS FALSE NEIGHBOUR: 'it returns false'. Refute it at one input. -/
def fnEditDistanceIsCappedLevenshteinWrong : ChangeSpec := { name := "fnEditDistanceIsCappedLevenshtein", fn := fun _ => fun
  | [d1, d2, d3] => { results := [.lit (.bool false)], args := [d1, d2, d3] }
  | _ => none }
def FnEditDistanceIsCappedLevenshteinWrongFalsely : Prop := fnEditDistanceIsCappedLevenshteinRow.holds Try.pinned (OpenSpec.ofChange fnEditDistanceIsCappedLevenshteinWrong)

/-- 'zzlaws_root_b1.FnEditDistanceSymmetricAndMirrored': WHATEVER THE INPUT: true; the input reads as it did. -/
def fnEditDistanceSymmetricAndMirroredSpec : ChangeSpec := { name := "fnEditDistanceSymmetricAndMirrored", fn := fun _ => fun
  | [d1, d2, d3] => { results := [.lit (.bool true)], args := [d1, d2, d3] }
  | _ => none }
def fnEditDistanceSymmetricAndMirroredRow : OpenClaim := { program := "qxb6603091a", sum := "4b0a3edcd4e356e8ec37d10ce5192dba847f4219e0bbd3f7a75851a115fa0a5f", func := "example.com/prudent-access/prudent-access/zzlaws_root_b1.FnEditDistanceSymmetricAndMirrored", spec := "fnEditDistanceSymmetricAndMirrored", apart := false }
def FnEditDistanceSymmetricAndMirroredSaid : Prop := fnEditDistanceSymmetricAndMirroredRow.holds Try.pinned (OpenSpec.ofChange fnEditDistanceSymmetricAndMirroredSpec)

/-- ITS FALSE NEIGHBOUR: 'it returns false'. Refute it at one input. -/
def fnEditDistanceSymmetricAndMirroredWrong : ChangeSpec := { name := "fnEditDistanceSymmetricAndMirrored", fn := fun _ => fun
  | [d1, d2, d3] => { results := [.lit (.bool false)], args := [d1, d2, d3] }
  | _ => none }
def FnEditDistanceSymmetricAndMirroredWrongFalsely : Prop := fnEditDistanceSymmetricAndMirroredRow.holds Try.pinned (OpenSpec.ofChange fnEditDistanceSymmetricAndMirroredWrong)

/-- 'zzlaws_root_b1.FnEditDistanceLimitsAgree': WHATEVER THE INPUT: true; the input reads as it did. -/
def fnEditDistanceLimitsAgreeSpec : ChangeSpec := { name := "fnEditDistanceLimitsAgree", fn := fun _ => fun
  | [d1, d2, d3, d4] => { results := [.lit (.bool true)], args := [d1, d2, d3, d4] }
  | _ => none }
def fnEditDistanceLimitsAgreeRow : OpenClaim := { program := "qxb6603091a", sum := "4b0a3edcd4e356e8ec37d10ce5192dba847f4219e0bbd3f7a75851a115fa0a5f", func := "example.com/prudent-access/prudent-access/zzlaws_root_b1.FnEditDistanceLimitsAgree", spec := "fnEditDistanceLimitsAgree", apart := false }
def FnEditDistanceLimitsAgreeSaid : Prop := fnEditDistanceLimitsAgreeRow.holds Try.pinned (OpenSpec.ofChange fnEditDistanceLimitsAgreeSpec)

/-- ITS FALSE NEIGHBOUR: 'it returns false'. Refute it at one input. -/
def fnEditDistanceLimitsAgreeWrong : ChangeSpec := { name := "fnEditDistanceLimitsAgree", fn := fun _ => fun
  | [d1, d2, d3, d4] => { results := [.lit (.bool false)], args := [d1, d2, d3, d4] }
  | _ => none }
def FnEditDistanceLimitsAgreeWrongFalsely : Prop := fnEditDistanceLimitsAgreeRow.holds Try.pinned (OpenSpec.ofChange fnEditDistanceLimitsAgreeWrong)

/-- 'zzlaws_root_b1.FnPatternFormsOrderedByGenerality': WHATEVER THE INPUT: true; the input reads as it did. -/
def fnPatternFormsOrderedByGeneralitySpec : ChangeSpec := { name := "fnPatternFormsOrderedByGenerality", fn := fun _ => fun
  | [d1, d2] => { results := [.lit (.bool true)], args := [d1, d2] }
  | _ => none }
def fnPatternFormsOrderedByGeneralityRow : OpenClaim := { program := "qxb6603091a", sum := "4b0a3edcd4e356e8ec37d10ce5192dba847f4219e0bbd3f7a75851a115fa0a5f", func := "example.com/prudent-access/prudent-access/zzlaws_root_b1.FnPatternFormsOrderedByGenerality", spec := "fnPatternFormsOrderedByGenerality", inPlace := ["internal/bytealg.IndexByteString", "internal/bytealg.IndexString"], named := ["internal/bytealg.MaxLen"], apart := false }
def FnPatternFormsOrderedByGeneralitySaid : Prop := fnPatternFormsOrderedByGeneralityRow.holds Try.pinned (OpenSpec.ofChange fnPatternFormsOrderedByGeneralitySpec)

/-- ITS FALSE NEIGHBOUR: 'it returns false'. Refute it at one input. -/
def fnPatternFormsOrderedByGeneralityWrong : ChangeSpec := { name := "fnPatternFormsOrderedByGenerality", fn := fun _ => fun
  | [d1, d2] => { results := [.lit (.bool false)], args := [d1, d2] }
  | _ => none }
def FnPatternFormsOrderedByGeneralityWrongFalsely : Prop := fnPatternFormsOrderedByGeneralityRow.holds Try.pinned (OpenSpec.ofChange fnPatternFormsOrderedByGeneralityWrong)

/-- 'zzlaws_root_b1.FnPatternCoversWhatItDescribes': WHATEVER THE INPUT: true; the input reads as it did. -/
def fnPatternCoversWhatItDescribesSpec : ChangeSpec := { name := "fnPatternCoversWhatItDescribes", fn := fun _ => fun
  | [d1, d2, d3, d4] => { results := [.lit (.bool true)], args := [d1, d2, d3, d4] }
  | _ => none }
def fnPatternCoversWhatItDescribesRow : OpenClaim := { program := "qxb6603091a", sum := "4b0a3edcd4e356e8ec37d10ce5192dba847f4219e0bbd3f7a75851a115fa0a5f", func := "example.com/prudent-access/prudent-access/zzlaws_root_b1.FnPatternCoversWhatItDescribes", spec := "fnPatternCoversWhatItDescribes", inPlace := ["internal/bytealg.IndexByteString", "internal/bytealg.IndexString"], named := ["internal/bytealg.MaxLen"], apart := false }
def FnPatternCoversWhatItDescribesSaid : Prop := fnPatternCoversWhatItDescribesRow.holds Try.pinned (OpenSpec.ofChange fnPatternCoversWhatItDescribesSpec)

/-- ITS FALSE NEIGHBOUR: 'it returns false'. Refute it at one input. -/
def fnPatternCoversWhatItDescribesWrong : ChangeSpec := { name := "fnPatternCoversWhatItDescribes", fn := fun _ => fun
  | [d1, d2, d3, d4] => { results := [.lit (.bool false)], args := [d1, d2, d3, d4] }
  | _ => none }
def FnPatternCoversWhatItDescribesWrongFalsely : Prop := fnPatternCoversWhatItDescribesRow.holds Try.pinned (OpenSpec.ofChange fnPatternCoversWhatItDescribesWrong)

/-- 'zzlaws_root_b1.FnMatchCoversUnionOfLists': WHATEVER THE INPUT: true; the input reads as it did. -/
def fnMatchCoversUnionOfListsSpec : ChangeSpec := { name := "fnMatchCoversUnionOfLists", fn := fun _ => fun
  | [d1, d2, d3, d4, d5] => { results := [.lit (.bool true)], args := [d1, d2, d3, d4, d5] }
  | _ => none }
def fnMatchCoversUnionOfListsRow : OpenClaim := { program := "qxb6603091a", sum := "4b0a3edcd4e356e8ec37d10ce5192dba847f4219e0bbd3f7a75851a115fa0a5f", func := "example.com/prudent-access/prudent-access/zzlaws_root_b1.FnMatchCoversUnionOfLists", spec := "fnMatchCoversUnionOfLists", inPlace := ["internal/bytealg.IndexByteString", "internal/bytealg.IndexString"], named := ["internal/bytealg.MaxLen"], apart := false }
def FnMatchCoversUnionOfListsSaid : Prop := fnMatchCoversUnionOfListsRow.holds Try.pinned (OpenSpec.ofChange fnMatchCoversUnionOfListsSpec)

/-- ITS FALSE NEIGHBOUR: 'it returns false'. Refute it at one input. -/
def fnMatchCoversUnionOfListsWrong : ChangeSpec := { name := "fnMatchCoversUnionOfLists", fn := fun _ => fun
  | [d1, d2, d3, d4, d5] => { results := [.lit (.bool false)], args := [d1, d2, d3, d4, d5] }
  | _ => none }
def FnMatchCoversUnionOfListsWrongFalsely : Prop := fnMatchCoversUnionOfListsRow.holds Try.pinned (OpenSpec.ofChange fnMatchCoversUnionOfListsWrong)

end Rows
end Go.Proofs.Qxb6603091a
