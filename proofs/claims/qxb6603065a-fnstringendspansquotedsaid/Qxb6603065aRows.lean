/-
  No cell of these rows narrows 'for every input' (looked for: loops, veiled, ifaces, maps, wideKeys, modest, calm, conditions, laid).
  DERIVED. THE GIVEN ROWS OF THIS SEAT. 7 by the template 'for every input the law returns true; each argument reads behind the call as it read before'; 0 by the template 'total and deterministic' (their statements: Qxb6603065aTotals.lean).
  GIVEN WITH THE SEED: the statements are not yours to turn. If you find one false, say at which input.
  Laid BY PROGRAM, IN A SANDBOX (cutbox-rows.mjs): the forced cells as the released guide's own fill.sh prints them over the translation dbd423f4f5e11a2f… (all of the seat's roots in one cut). By AI agents, Wed Nov 11 2026. No macro, syntax, notation, axiom, sorry.
-/
import Derived.Test.Qxb6603065aChecked
import GoSem.Claim
import GoSem.ClaimJoined
import GoSem.ClaimMapViews
import Derived.JoinedTies
import Derived.KernelRfl
namespace Go.Proofs.Qxb6603065a
/- THE CELL 'sum', in the pinned program and in every row, IS THE sha256 OF THE DUMP (.gsa) THAT Qxb6603065aProg.lean LOADS. Nothing in Lean hashes anything: it is a label: what it is worth is what the hold of that sum in a sandbox is worth. -/
noncomputable def Try.pinned : Pinned := { name := "qxb6603065a", sum := "dbd423f4f5e11a2fdb95bb7ed8b17fb0495c5591e1c57b492cba2b175f172986", checked := Try.checked }
namespace Rows
def none {H : Type} : Left H := { results := [], args := [] }

/-- 'zzlaws_strictjson_b1.FnSkipSpaceSpec': WHATEVER THE INPUT: true; the input reads as it did. -/
def fnSkipSpaceSpecSpec : ChangeSpec := { name := "fnSkipSpaceSpec", fn := fun _ => fun
  | [d1, d2] => { results := [.lit (.bool true)], args := [d1, d2] }
  | _ => none }
def fnSkipSpaceSpecRow : OpenClaim := { program := "qxb6603065a", sum := "dbd423f4f5e11a2fdb95bb7ed8b17fb0495c5591e1c57b492cba2b175f172986", func := "example.com/attestgate/attestgate/zzlaws_strictjson_b1.FnSkipSpaceSpec", spec := "fnSkipSpaceSpec", apart := false }
def FnSkipSpaceSpecSaid : Prop := fnSkipSpaceSpecRow.holds Try.pinned (OpenSpec.ofChange fnSkipSpaceSpecSpec)

/-- ITS FALSE NEIGHBOUR: 'it returns false'. Refute it at one input. -/
def fnSkipSpaceSpecWrong : ChangeSpec := { name := "fnSkipSpaceSpec", fn := fun _ => fun
  | [d1, d2] => { results := [.lit (.bool false)], args := [d1, d2] }
  | _ => none }
def FnSkipSpaceSpecWrongFalsely : Prop := fnSkipSpaceSpecRow.holds Try.pinned (OpenSpec.ofChange fnSkipSpaceSpecWrong)

/-- 'zzlaws_strictjson_b1.FnSkipSpaceMonotoneIdempotent': WHATEVER THE INPUT: true; the input reads as it did. -/
def fnSkipSpaceMonotoneIdempotentSpec : ChangeSpec := { name := "fnSkipSpaceMonotoneIdempotent", fn := fun _ => fun
  | [d1, d2, d3] => { results := [.lit (.bool true)], args := [d1, d2, d3] }
  | _ => none }
def fnSkipSpaceMonotoneIdempotentRow : OpenClaim := { program := "qxb6603065a", sum := "dbd423f4f5e11a2fdb95bb7ed8b17fb0495c5591e1c57b492cba2b175f172986", func := "example.com/attestgate/attestgate/zzlaws_strictjson_b1.FnSkipSpaceMonotoneIdempotent", spec := "fnSkipSpaceMonotoneIdempotent", apart := false }
def FnSkipSpaceMonotoneIdempotentSaid : Prop := fnSkipSpaceMonotoneIdempotentRow.holds Try.pinned (OpenSpec.ofChange fnSkipSpaceMonotoneIdempotentSpec)

/-- ITS FALSE NEIGHBOUR: 'it returns false'. Refute it at one input. -/
def fnSkipSpaceMonotoneIdempotentWrong : ChangeSpec := { name := "fnSkipSpaceMonotoneIdempotent", fn := fun _ => fun
  | [d1, d2, d3] => { results := [.lit (.bool false)], args := [d1, d2, d3] }
  | _ => none }
def FnSkipSpaceMonotoneIdempotentWrongFalsely : Prop := fnSkipSpaceMonotoneIdempotentRow.holds Try.pinned (OpenSpec.ofChange fnSkipSpaceMonotoneIdempotentWrong)

/-- 'zzlaws_strictjson_b1.FnStringEndSpec': WHATEVER THE INPUT: true; the input reads as it did. -/
def fnStringEndSpecSpec : ChangeSpec := { name := "fnStringEndSpec", fn := fun _ => fun
  | [d1, d2] => { results := [.lit (.bool true)], args := [d1, d2] }
  | _ => none }
def fnStringEndSpecRow : OpenClaim := { program := "qxb6603065a", sum := "dbd423f4f5e11a2fdb95bb7ed8b17fb0495c5591e1c57b492cba2b175f172986", func := "example.com/attestgate/attestgate/zzlaws_strictjson_b1.FnStringEndSpec", spec := "fnStringEndSpec", inPlace := ["internal/bytealg.IndexByte"], apart := false }
def FnStringEndSpecSaid : Prop := fnStringEndSpecRow.holds Try.pinned (OpenSpec.ofChange fnStringEndSpecSpec)

/-- ITS FALSE NEIGHBOUR: 'it returns false'. Refute it at one input. -/
def fnStringEndSpecWrong : ChangeSpec := { name := "fnStringEndSpec", fn := fun _ => fun
  | [d1, d2] => { results := [.lit (.bool false)], args := [d1, d2] }
  | _ => none }
def FnStringEndSpecWrongFalsely : Prop := fnStringEndSpecRow.holds Try.pinned (OpenSpec.ofChange fnStringEndSpecWrong)

/-- 'zzlaws_strictjson_b1.FnStringEndSpansQuoted': WHATEVER THE INPUT: true; the input reads as it did. -/
def fnStringEndSpansQuotedSpec : ChangeSpec := { name := "fnStringEndSpansQuoted", fn := fun _ => fun
  | [d1, d2, d3] => { results := [.lit (.bool true)], args := [d1, d2, d3] }
  | _ => none }
def fnStringEndSpansQuotedRow : OpenClaim := { program := "qxb6603065a", sum := "dbd423f4f5e11a2fdb95bb7ed8b17fb0495c5591e1c57b492cba2b175f172986", func := "example.com/attestgate/attestgate/zzlaws_strictjson_b1.FnStringEndSpansQuoted", spec := "fnStringEndSpansQuoted", inPlace := ["internal/bytealg.IndexByte"], apart := false }
def FnStringEndSpansQuotedSaid : Prop := fnStringEndSpansQuotedRow.holds Try.pinned (OpenSpec.ofChange fnStringEndSpansQuotedSpec)

/-- ITS FALSE NEIGHBOUR: 'it returns false'. Refute it at one input. -/
def fnStringEndSpansQuotedWrong : ChangeSpec := { name := "fnStringEndSpansQuoted", fn := fun _ => fun
  | [d1, d2, d3] => { results := [.lit (.bool false)], args := [d1, d2, d3] }
  | _ => none }
def FnStringEndSpansQuotedWrongFalsely : Prop := fnStringEndSpansQuotedRow.holds Try.pinned (OpenSpec.ofChange fnStringEndSpansQuotedWrong)

/-- 'zzlaws_strictjson_b1.FnValueEndSpec': WHATEVER THE INPUT: true; the input reads as it did. -/
def fnValueEndSpecSpec : ChangeSpec := { name := "fnValueEndSpec", fn := fun _ => fun
  | [d1, d2] => { results := [.lit (.bool true)], args := [d1, d2] }
  | _ => none }
def fnValueEndSpecRow : OpenClaim := { program := "qxb6603065a", sum := "dbd423f4f5e11a2fdb95bb7ed8b17fb0495c5591e1c57b492cba2b175f172986", func := "example.com/attestgate/attestgate/zzlaws_strictjson_b1.FnValueEndSpec", spec := "fnValueEndSpec", inPlace := ["internal/bytealg.IndexByte"], recurses := true, apart := false }
def FnValueEndSpecSaid : Prop := fnValueEndSpecRow.holds Try.pinned (OpenSpec.ofChange fnValueEndSpecSpec)

/-- ITS FALSE NEIGHBOUR: 'it returns false'. Refute it at one input. -/
def fnValueEndSpecWrong : ChangeSpec := { name := "fnValueEndSpec", fn := fun _ => fun
  | [d1, d2] => { results := [.lit (.bool false)], args := [d1, d2] }
  | _ => none }
def FnValueEndSpecWrongFalsely : Prop := fnValueEndSpecRow.holds Try.pinned (OpenSpec.ofChange fnValueEndSpecWrong)

/-- 'zzlaws_strictjson_b1.FnValueEndStandsAlone': WHATEVER THE INPUT: true; the input reads as it did. -/
def fnValueEndStandsAloneSpec : ChangeSpec := { name := "fnValueEndStandsAlone", fn := fun _ => fun
  | [d1, d2] => { results := [.lit (.bool true)], args := [d1, d2] }
  | _ => none }
def fnValueEndStandsAloneRow : OpenClaim := { program := "qxb6603065a", sum := "dbd423f4f5e11a2fdb95bb7ed8b17fb0495c5591e1c57b492cba2b175f172986", func := "example.com/attestgate/attestgate/zzlaws_strictjson_b1.FnValueEndStandsAlone", spec := "fnValueEndStandsAlone", inPlace := ["internal/bytealg.IndexByte"], recurses := true, apart := false }
def FnValueEndStandsAloneSaid : Prop := fnValueEndStandsAloneRow.holds Try.pinned (OpenSpec.ofChange fnValueEndStandsAloneSpec)

/-- ITS FALSE NEIGHBOUR: 'it returns false'. Refute it at one input. -/
def fnValueEndStandsAloneWrong : ChangeSpec := { name := "fnValueEndStandsAlone", fn := fun _ => fun
  | [d1, d2] => { results := [.lit (.bool false)], args := [d1, d2] }
  | _ => none }
def FnValueEndStandsAloneWrongFalsely : Prop := fnValueEndStandsAloneRow.holds Try.pinned (OpenSpec.ofChange fnValueEndStandsAloneWrong)

/-- 'zzlaws_strictjson_b1.FnArrayWalkMeetsValueEnd': WHATEVER THE INPUT: true; the input reads as it did. -/
def fnArrayWalkMeetsValueEndSpec : ChangeSpec := { name := "fnArrayWalkMeetsValueEnd", fn := fun _ => fun
  | [d1, d2] => { results := [.lit (.bool true)], args := [d1, d2] }
  | _ => none }
def fnArrayWalkMeetsValueEndRow : OpenClaim := { program := "qxb6603065a", sum := "dbd423f4f5e11a2fdb95bb7ed8b17fb0495c5591e1c57b492cba2b175f172986", func := "example.com/attestgate/attestgate/zzlaws_strictjson_b1.FnArrayWalkMeetsValueEnd", spec := "fnArrayWalkMeetsValueEnd", inPlace := ["internal/bytealg.IndexByte"], recurses := true, apart := false }
def FnArrayWalkMeetsValueEndSaid : Prop := fnArrayWalkMeetsValueEndRow.holds Try.pinned (OpenSpec.ofChange fnArrayWalkMeetsValueEndSpec)

/-- ITS FALSE NEIGHBOUR: 'it returns false'. Refute it at one input. -/
def fnArrayWalkMeetsValueEndWrong : ChangeSpec := { name := "fnArrayWalkMeetsValueEnd", fn := fun _ => fun
  | [d1, d2] => { results := [.lit (.bool false)], args := [d1, d2] }
  | _ => none }
def FnArrayWalkMeetsValueEndWrongFalsely : Prop := fnArrayWalkMeetsValueEndRow.holds Try.pinned (OpenSpec.ofChange fnArrayWalkMeetsValueEndWrong)

end Rows
end Go.Proofs.Qxb6603065a
