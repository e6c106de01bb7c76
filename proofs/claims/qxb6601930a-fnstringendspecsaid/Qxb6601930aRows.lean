/-
  No cell of these rows narrows 'for every input' (looked for: loops, veiled, ifaces, maps, wideKeys, modest, calm, conditions, laid).
  DERIVED. THE GIVEN ROWS OF THIS SEAT. 5 by the template 'for every input the law returns true; each argument reads behind the call as it read before'; 0 by the template 'total and deterministic' (their statements: Qxb6601930aTotals.lean).
  GIVEN WITH THE SEED: the statements are not yours to turn. If you find one false, say at which input.
  Laid BY PROGRAM, IN A SANDBOX (cutbox-rows.mjs): the forced cells as the released guide's own fill.sh prints them over the translation 21f18edb6358dd3a… (all of the seat's roots in one cut). By AI agents, Wed Nov 11 2026. No macro, syntax, notation, axiom, sorry.
-/
import Derived.Test.Qxb6601930aChecked
import GoSem.Claim
import GoSem.ClaimJoined
import GoSem.ClaimMapViews
import Derived.JoinedTies
import Derived.KernelRfl
namespace Go.Proofs.Qxb6601930a
/- THE CELL 'sum', in the pinned program and in every row, IS THE sha256 OF THE DUMP (.gsa) THAT Qxb6601930aProg.lean LOADS. Nothing in Lean hashes anything: it is a label: what it is worth is what the hold of that sum in a sandbox is worth. -/
noncomputable def Try.pinned : Pinned := { name := "qxb6601930a", sum := "21f18edb6358dd3af433dc7c0150f379dffd2b82e5ae387c3cd6242d8916efb0", checked := Try.checked }
namespace Rows
def none {H : Type} : Left H := { results := [], args := [] }

/-- 'zzlaws_pkg_jsonobj_b1.FnSkipSpaceSpec': WHATEVER THE INPUT: true; the input reads as it did. -/
def fnSkipSpaceSpecSpec : ChangeSpec := { name := "fnSkipSpaceSpec", fn := fun _ => fun
  | [d1, d2] => { results := [.lit (.bool true)], args := [d1, d2] }
  | _ => none }
def fnSkipSpaceSpecRow : OpenClaim := { program := "qxb6601930a", sum := "21f18edb6358dd3af433dc7c0150f379dffd2b82e5ae387c3cd6242d8916efb0", func := "example.com/palisade/palisade/zzlaws_pkg_jsonobj_b1.FnSkipSpaceSpec", spec := "fnSkipSpaceSpec", apart := false }
def FnSkipSpaceSpecSaid : Prop := fnSkipSpaceSpecRow.holds Try.pinned (OpenSpec.ofChange fnSkipSpaceSpecSpec)

/-- ITS FALSE NEIGHBOUR: 'it returns false'. Refute it at one input. -/
def fnSkipSpaceSpecWrong : ChangeSpec := { name := "fnSkipSpaceSpec", fn := fun _ => fun
  | [d1, d2] => { results := [.lit (.bool false)], args := [d1, d2] }
  | _ => none }
def FnSkipSpaceSpecWrongFalsely : Prop := fnSkipSpaceSpecRow.holds Try.pinned (OpenSpec.ofChange fnSkipSpaceSpecWrong)

/-- 'zzlaws_pkg_jsonobj_b1.FnSkipSpaceIdempotent': WHATEVER THE INPUT: true; the input reads as it did. -/
def fnSkipSpaceIdempotentSpec : ChangeSpec := { name := "fnSkipSpaceIdempotent", fn := fun _ => fun
  | [d1, d2] => { results := [.lit (.bool true)], args := [d1, d2] }
  | _ => none }
def fnSkipSpaceIdempotentRow : OpenClaim := { program := "qxb6601930a", sum := "21f18edb6358dd3af433dc7c0150f379dffd2b82e5ae387c3cd6242d8916efb0", func := "example.com/palisade/palisade/zzlaws_pkg_jsonobj_b1.FnSkipSpaceIdempotent", spec := "fnSkipSpaceIdempotent", apart := false }
def FnSkipSpaceIdempotentSaid : Prop := fnSkipSpaceIdempotentRow.holds Try.pinned (OpenSpec.ofChange fnSkipSpaceIdempotentSpec)

/-- ITS FALSE NEIGHBOUR: 'it returns false'. Refute it at one input. -/
def fnSkipSpaceIdempotentWrong : ChangeSpec := { name := "fnSkipSpaceIdempotent", fn := fun _ => fun
  | [d1, d2] => { results := [.lit (.bool false)], args := [d1, d2] }
  | _ => none }
def FnSkipSpaceIdempotentWrongFalsely : Prop := fnSkipSpaceIdempotentRow.holds Try.pinned (OpenSpec.ofChange fnSkipSpaceIdempotentWrong)

/-- 'zzlaws_pkg_jsonobj_b1.FnSkipSpaceMonotoneAndLands': WHATEVER THE INPUT: true; the input reads as it did. -/
def fnSkipSpaceMonotoneAndLandsSpec : ChangeSpec := { name := "fnSkipSpaceMonotoneAndLands", fn := fun _ => fun
  | [d1, d2, d3] => { results := [.lit (.bool true)], args := [d1, d2, d3] }
  | _ => none }
def fnSkipSpaceMonotoneAndLandsRow : OpenClaim := { program := "qxb6601930a", sum := "21f18edb6358dd3af433dc7c0150f379dffd2b82e5ae387c3cd6242d8916efb0", func := "example.com/palisade/palisade/zzlaws_pkg_jsonobj_b1.FnSkipSpaceMonotoneAndLands", spec := "fnSkipSpaceMonotoneAndLands", apart := false }
def FnSkipSpaceMonotoneAndLandsSaid : Prop := fnSkipSpaceMonotoneAndLandsRow.holds Try.pinned (OpenSpec.ofChange fnSkipSpaceMonotoneAndLandsSpec)

/-- ITS FALSE NEIGHBOUR: 'it returns false'. Refute it at one input. -/
def fnSkipSpaceMonotoneAndLandsWrong : ChangeSpec := { name := "fnSkipSpaceMonotoneAndLands", fn := fun _ => fun
  | [d1, d2, d3] => { results := [.lit (.bool false)], args := [d1, d2, d3] }
  | _ => none }
def FnSkipSpaceMonotoneAndLandsWrongFalsely : Prop := fnSkipSpaceMonotoneAndLandsRow.holds Try.pinned (OpenSpec.ofChange fnSkipSpaceMonotoneAndLandsWrong)

/-- 'zzlaws_pkg_jsonobj_b1.FnStringEndSpec': WHATEVER THE INPUT: true; the input reads as it did. -/
def fnStringEndSpecSpec : ChangeSpec := { name := "fnStringEndSpec", fn := fun _ => fun
  | [d1, d2] => { results := [.lit (.bool true)], args := [d1, d2] }
  | _ => none }
def fnStringEndSpecRow : OpenClaim := { program := "qxb6601930a", sum := "21f18edb6358dd3af433dc7c0150f379dffd2b82e5ae387c3cd6242d8916efb0", func := "example.com/palisade/palisade/zzlaws_pkg_jsonobj_b1.FnStringEndSpec", spec := "fnStringEndSpec", apart := false }
def FnStringEndSpecSaid : Prop := fnStringEndSpecRow.holds Try.pinned (OpenSpec.ofChange fnStringEndSpecSpec)

/-- ITS FALSE NEIGHBOUR: 'it returns false'. Refute it at one input. -/
def fnStringEndSpecWrong : ChangeSpec := { name := "fnStringEndSpec", fn := fun _ => fun
  | [d1, d2] => { results := [.lit (.bool false)], args := [d1, d2] }
  | _ => none }
def FnStringEndSpecWrongFalsely : Prop := fnStringEndSpecRow.holds Try.pinned (OpenSpec.ofChange fnStringEndSpecWrong)

/-- 'zzlaws_pkg_jsonobj_b1.FnValueEndSpec': WHATEVER THE INPUT: true; the input reads as it did. -/
def fnValueEndSpecSpec : ChangeSpec := { name := "fnValueEndSpec", fn := fun _ => fun
  | [d1, d2] => { results := [.lit (.bool true)], args := [d1, d2] }
  | _ => none }
def fnValueEndSpecRow : OpenClaim := { program := "qxb6601930a", sum := "21f18edb6358dd3af433dc7c0150f379dffd2b82e5ae387c3cd6242d8916efb0", func := "example.com/palisade/palisade/zzlaws_pkg_jsonobj_b1.FnValueEndSpec", spec := "fnValueEndSpec", inPlace := ["internal/bytealg.IndexByteString"], recurses := true, apart := false }
def FnValueEndSpecSaid : Prop := fnValueEndSpecRow.holds Try.pinned (OpenSpec.ofChange fnValueEndSpecSpec)

/-- ITS FALSE NEIGHBOUR: 'it returns false'. Refute it at one input. -/
def fnValueEndSpecWrong : ChangeSpec := { name := "fnValueEndSpec", fn := fun _ => fun
  | [d1, d2] => { results := [.lit (.bool false)], args := [d1, d2] }
  | _ => none }
def FnValueEndSpecWrongFalsely : Prop := fnValueEndSpecRow.holds Try.pinned (OpenSpec.ofChange fnValueEndSpecWrong)

end Rows
end Go.Proofs.Qxb6601930a
