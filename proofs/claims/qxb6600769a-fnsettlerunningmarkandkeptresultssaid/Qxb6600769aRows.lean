/-
  No cell of these rows narrows 'for every input' (looked for: loops, veiled, ifaces, maps, wideKeys, modest, calm, conditions, laid).
  DERIVED. THE GIVEN ROWS OF THIS SEAT. 7 by the template 'for every input the law returns true; each argument reads behind the call as it read before'; 0 by the template 'total and deterministic' (their statements: Qxb6600769aTotals.lean).
  GIVEN WITH THE SEED: the statements are not yours to turn. If you find one false, say at which input.
  Laid BY PROGRAM, IN A SANDBOX (cutbox-rows.mjs): the forced cells as the released guide's own fill.sh prints them over the translation 10af483f4c029cc9… (all of the seat's roots in one cut). By AI agents, Wed Nov 11 2026. No macro, syntax, notation, axiom, sorry.
-/
import Derived.Test.Qxb6600769aChecked
import GoSem.Claim
import GoSem.ClaimJoined
import GoSem.ClaimMapViews
import Derived.JoinedTies
import Derived.KernelRfl
namespace Go.Proofs.Qxb6600769a
/- THE CELL 'sum', in the pinned program and in every row, IS THE sha256 OF THE DUMP (.gsa) THAT Qxb6600769aProg.lean LOADS. Nothing in Lean hashes anything: it is a label: what it is worth is what the hold of that sum in a sandbox is worth. -/
noncomputable def Try.pinned : Pinned := { name := "qxb6600769a", sum := "10af483f4c029cc9d4e9e3ddda83df80fd32bff1e7ca2acb9831b0b7c43850dd", checked := Try.checked }
namespace Rows
def none {H : Type} : Left H := { results := [], args := [] }

/-- 'zzlaws_root_b1.FnIntersectExactlyWhenNoDisjointQuorums': WHATEVER THE INPUT: true; the input reads as it did. -/
def fnIntersectExactlyWhenNoDisjointQuorumsSpec : ChangeSpec := { name := "fnIntersectExactlyWhenNoDisjointQuorums", fn := fun _ => fun
  | [d1, d2, d3, d4, d5, d6, d7, d8] => { results := [.lit (.bool true)], args := [d1, d2, d3, d4, d5, d6, d7, d8] }
  | _ => none }
def fnIntersectExactlyWhenNoDisjointQuorumsRow : OpenClaim := { program := "qxb6600769a", sum := "10af483f4c029cc9d4e9e3ddda83df80fd32bff1e7ca2acb9831b0b7c43850dd", func := "example.com/quorumcraft/quorumcraft/zzlaws_root_b1.FnIntersectExactlyWhenNoDisjointQuorums", spec := "fnIntersectExactlyWhenNoDisjointQuorums", apart := false }
def FnIntersectExactlyWhenNoDisjointQuorumsSaid : Prop := fnIntersectExactlyWhenNoDisjointQuorumsRow.holds Try.pinned (OpenSpec.ofChange fnIntersectExactlyWhenNoDisjointQuorumsSpec)

/-- ITS FALSE NEIGHBOUR: 'it returns false'. Refute it at one input. -/
def fnIntersectExactlyWhenNoDisjointQuorumsWrong : ChangeSpec := { name := "fnIntersectExactlyWhenNoDisjointQuorums", fn := fun _ => fun
  | [d1, d2, d3, d4, d5, d6, d7, d8] => { results := [.lit (.bool false)], args := [d1, d2, d3, d4, d5, d6, d7, d8] }
  | _ => none }
def FnIntersectExactlyWhenNoDisjointQuorumsWrongFalsely : Prop := fnIntersectExactlyWhenNoDisjointQuorumsRow.holds Try.pinned (OpenSpec.ofChange fnIntersectExactlyWhenNoDisjointQuorumsWrong)

/-- 'zzlaws_root_b1.FnIntersectUnchangedBySwapAndTranspose': WHATEVER THE INPUT: true; the input reads as it did. -/
def fnIntersectUnchangedBySwapAndTransposeSpec : ChangeSpec := { name := "fnIntersectUnchangedBySwapAndTranspose", fn := fun _ => fun
  | [d1, d2, d3, d4, d5, d6, d7, d8] => { results := [.lit (.bool true)], args := [d1, d2, d3, d4, d5, d6, d7, d8] }
  | _ => none }
def fnIntersectUnchangedBySwapAndTransposeRow : OpenClaim := { program := "qxb6600769a", sum := "10af483f4c029cc9d4e9e3ddda83df80fd32bff1e7ca2acb9831b0b7c43850dd", func := "example.com/quorumcraft/quorumcraft/zzlaws_root_b1.FnIntersectUnchangedBySwapAndTranspose", spec := "fnIntersectUnchangedBySwapAndTranspose", apart := false }
def FnIntersectUnchangedBySwapAndTransposeSaid : Prop := fnIntersectUnchangedBySwapAndTransposeRow.holds Try.pinned (OpenSpec.ofChange fnIntersectUnchangedBySwapAndTransposeSpec)

/-- ITS FALSE NEIGHBOUR: 'it returns false'. Refute it at one input. -/
def fnIntersectUnchangedBySwapAndTransposeWrong : ChangeSpec := { name := "fnIntersectUnchangedBySwapAndTranspose", fn := fun _ => fun
  | [d1, d2, d3, d4, d5, d6, d7, d8] => { results := [.lit (.bool false)], args := [d1, d2, d3, d4, d5, d6, d7, d8] }
  | _ => none }
def FnIntersectUnchangedBySwapAndTransposeWrongFalsely : Prop := fnIntersectUnchangedBySwapAndTransposeRow.holds Try.pinned (OpenSpec.ofChange fnIntersectUnchangedBySwapAndTransposeWrong)

/-- 'zzlaws_root_b1.FnIntersectKeptByLargerPhase1Quorums': WHATEVER THE INPUT: true; the input reads as it did. -/
def fnIntersectKeptByLargerPhase1QuorumsSpec : ChangeSpec := { name := "fnIntersectKeptByLargerPhase1Quorums", fn := fun _ => fun
  | [d1, d2, d3, d4, d5, d6, d7, d8, d9, d10] => { results := [.lit (.bool true)], args := [d1, d2, d3, d4, d5, d6, d7, d8, d9, d10] }
  | _ => none }
def fnIntersectKeptByLargerPhase1QuorumsRow : OpenClaim := { program := "qxb6600769a", sum := "10af483f4c029cc9d4e9e3ddda83df80fd32bff1e7ca2acb9831b0b7c43850dd", func := "example.com/quorumcraft/quorumcraft/zzlaws_root_b1.FnIntersectKeptByLargerPhase1Quorums", spec := "fnIntersectKeptByLargerPhase1Quorums", apart := false }
def FnIntersectKeptByLargerPhase1QuorumsSaid : Prop := fnIntersectKeptByLargerPhase1QuorumsRow.holds Try.pinned (OpenSpec.ofChange fnIntersectKeptByLargerPhase1QuorumsSpec)

/-- ITS FALSE NEIGHBOUR: 'it returns false'. Refute it at one input. -/
def fnIntersectKeptByLargerPhase1QuorumsWrong : ChangeSpec := { name := "fnIntersectKeptByLargerPhase1Quorums", fn := fun _ => fun
  | [d1, d2, d3, d4, d5, d6, d7, d8, d9, d10] => { results := [.lit (.bool false)], args := [d1, d2, d3, d4, d5, d6, d7, d8, d9, d10] }
  | _ => none }
def FnIntersectKeptByLargerPhase1QuorumsWrongFalsely : Prop := fnIntersectKeptByLargerPhase1QuorumsRow.holds Try.pinned (OpenSpec.ofChange fnIntersectKeptByLargerPhase1QuorumsWrong)

/-- 'zzlaws_root_b1.FnAnalyzeWhole': WHATEVER THE INPUT: true; the input reads as it did. -/
def fnAnalyzeWholeSpec : ChangeSpec := { name := "fnAnalyzeWhole", fn := fun _ => fun
  | [d1, d2, d3, d4, d5, d6, d7, d8, d9] => { results := [.lit (.bool true)], args := [d1, d2, d3, d4, d5, d6, d7, d8, d9] }
  | _ => none }
def fnAnalyzeWholeRow : OpenClaim := { program := "qxb6600769a", sum := "10af483f4c029cc9d4e9e3ddda83df80fd32bff1e7ca2acb9831b0b7c43850dd", func := "example.com/quorumcraft/quorumcraft/zzlaws_root_b1.FnAnalyzeWhole", spec := "fnAnalyzeWhole", apart := false }
def FnAnalyzeWholeSaid : Prop := fnAnalyzeWholeRow.holds Try.pinned (OpenSpec.ofChange fnAnalyzeWholeSpec)

/-- ITS FALSE NEIGHBOUR: 'it returns false'. Refute it at one input. -/
def fnAnalyzeWholeWrong : ChangeSpec := { name := "fnAnalyzeWhole", fn := fun _ => fun
  | [d1, d2, d3, d4, d5, d6, d7, d8, d9] => { results := [.lit (.bool false)], args := [d1, d2, d3, d4, d5, d6, d7, d8, d9] }
  | _ => none }
def FnAnalyzeWholeWrongFalsely : Prop := fnAnalyzeWholeRow.holds Try.pinned (OpenSpec.ofChange fnAnalyzeWholeWrong)

/-- 'zzlaws_root_b1.FnAnalyzeBlockingBounds': WHATEVER THE INPUT: true; the input reads as it did. -/
def fnAnalyzeBlockingBoundsSpec : ChangeSpec := { name := "fnAnalyzeBlockingBounds", fn := fun _ => fun
  | [d1, d2, d3, d4, d5, d6, d7, d8] => { results := [.lit (.bool true)], args := [d1, d2, d3, d4, d5, d6, d7, d8] }
  | _ => none }
def fnAnalyzeBlockingBoundsRow : OpenClaim := { program := "qxb6600769a", sum := "10af483f4c029cc9d4e9e3ddda83df80fd32bff1e7ca2acb9831b0b7c43850dd", func := "example.com/quorumcraft/quorumcraft/zzlaws_root_b1.FnAnalyzeBlockingBounds", spec := "fnAnalyzeBlockingBounds", apart := false }
def FnAnalyzeBlockingBoundsSaid : Prop := fnAnalyzeBlockingBoundsRow.holds Try.pinned (OpenSpec.ofChange fnAnalyzeBlockingBoundsSpec)

/-- ITS FALSE NEIGHBOUR: 'it returns false'. Refute it at one input. -/
def fnAnalyzeBlockingBoundsWrong : ChangeSpec := { name := "fnAnalyzeBlockingBounds", fn := fun _ => fun
  | [d1, d2, d3, d4, d5, d6, d7, d8] => { results := [.lit (.bool false)], args := [d1, d2, d3, d4, d5, d6, d7, d8] }
  | _ => none }
def FnAnalyzeBlockingBoundsWrongFalsely : Prop := fnAnalyzeBlockingBoundsRow.holds Try.pinned (OpenSpec.ofChange fnAnalyzeBlockingBoundsWrong)

/-- 'zzlaws_root_b1.FnSettleRunningMarkAndKeptResults': WHATEVER THE INPUT: true; the input reads as it did. -/
def fnSettleRunningMarkAndKeptResultsSpec : ChangeSpec := { name := "fnSettleRunningMarkAndKeptResults", fn := fun _ => fun
  | [d] => { results := [.lit (.bool true)], args := [d] }
  | _ => none }
def fnSettleRunningMarkAndKeptResultsRow : OpenClaim := { program := "qxb6600769a", sum := "10af483f4c029cc9d4e9e3ddda83df80fd32bff1e7ca2acb9831b0b7c43850dd", func := "example.com/quorumcraft/quorumcraft/zzlaws_root_b1.FnSettleRunningMarkAndKeptResults", spec := "fnSettleRunningMarkAndKeptResults", apart := false }
def FnSettleRunningMarkAndKeptResultsSaid : Prop := fnSettleRunningMarkAndKeptResultsRow.holds Try.pinned (OpenSpec.ofChange fnSettleRunningMarkAndKeptResultsSpec)

/-- ITS FALSE NEIGHBOUR: 'it returns false'. Refute it at one input. -/
def fnSettleRunningMarkAndKeptResultsWrong : ChangeSpec := { name := "fnSettleRunningMarkAndKeptResults", fn := fun _ => fun
  | [d] => { results := [.lit (.bool false)], args := [d] }
  | _ => none }
def FnSettleRunningMarkAndKeptResultsWrongFalsely : Prop := fnSettleRunningMarkAndKeptResultsRow.holds Try.pinned (OpenSpec.ofChange fnSettleRunningMarkAndKeptResultsWrong)

/-- 'zzlaws_root_b1.FnSettleIdempotentAndIsolated': WHATEVER THE INPUT: true; the input reads as it did. -/
def fnSettleIdempotentAndIsolatedSpec : ChangeSpec := { name := "fnSettleIdempotentAndIsolated", fn := fun _ => fun
  | [d1, d2, d3, d4] => { results := [.lit (.bool true)], args := [d1, d2, d3, d4] }
  | _ => none }
def fnSettleIdempotentAndIsolatedRow : OpenClaim := { program := "qxb6600769a", sum := "10af483f4c029cc9d4e9e3ddda83df80fd32bff1e7ca2acb9831b0b7c43850dd", func := "example.com/quorumcraft/quorumcraft/zzlaws_root_b1.FnSettleIdempotentAndIsolated", spec := "fnSettleIdempotentAndIsolated", apart := false }
def FnSettleIdempotentAndIsolatedSaid : Prop := fnSettleIdempotentAndIsolatedRow.holds Try.pinned (OpenSpec.ofChange fnSettleIdempotentAndIsolatedSpec)

/-- ITS FALSE NEIGHBOUR: 'it returns false'. Refute it at one input. -/
def fnSettleIdempotentAndIsolatedWrong : ChangeSpec := { name := "fnSettleIdempotentAndIsolated", fn := fun _ => fun
  | [d1, d2, d3, d4] => { results := [.lit (.bool false)], args := [d1, d2, d3, d4] }
  | _ => none }
def FnSettleIdempotentAndIsolatedWrongFalsely : Prop := fnSettleIdempotentAndIsolatedRow.holds Try.pinned (OpenSpec.ofChange fnSettleIdempotentAndIsolatedWrong)

end Rows
end Go.Proofs.Qxb6600769a
