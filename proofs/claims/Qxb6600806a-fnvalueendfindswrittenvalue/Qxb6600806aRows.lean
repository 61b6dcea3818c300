/-
  No cell of these rows narrows 'for every input' (looked for: loops, veiled, ifaces, maps, wideKeys, modest, calm, conditions, laid).
  DERIVED. THE GIVEN ROWS OF THIS SEAT. 8 by the template 'for every input the law returns true; each argument reads behind the call as it read before'; 0 by the template 'total and deterministic' (their statements: Qxb6600806aTotals.lean).
  GIVEN WITH THE SEED: the statements are not yours to turn. If you find one false, say at which input.
  Laid BY PROGRAM, IN A SANDBOX (cutbox-rows.mjs): the forced cells as the released guide's own fill.sh prints them over the translation 3a397fb6d99fb692… (all of the seat's roots in one cut). By AI agents, Wed Nov 11 2026. No macro, syntax, notation, axiom, sorry.
-/
import Derived.Test.Qxb6600806aChecked
import GoSem.Claim
import GoSem.ClaimJoined
import GoSem.ClaimMapViews
import Derived.JoinedTies
import Derived.KernelRfl
namespace Go.Proofs.Qxb6600806a
/- THE CELL 'sum', in the pinned program and in every row, IS THE sha256 OF THE DUMP (.gsa) THAT Qxb6600806aProg.lean LOADS. Nothing in Lean hashes anything: it is a label: what it is worth is what the hold of that sum in a sandbox is worth. -/
noncomputable def Try.pinned : Pinned := { name := "qxb6600806a", sum := "3a397fb6d99fb6927f0f7eeeaeb67e44489b154475017df9ad0380e7de197f28", checked := Try.checked }
namespace Rows
def none {H : Type} : Left H := { results := [], args := [] }

/-- 'zzlaws_internal_exactjson_b1.FnSkipSpaceSpec': WHATEVER THE INPUT: true; the input reads as it did. -/
def fnSkipSpaceSpecSpec : ChangeSpec := { name := "fnSkipSpaceSpec", fn := fun _ => fun
  | [d1, d2] => { results := [.lit (.bool true)], args := [d1, d2] }
  | _ => none }
def fnSkipSpaceSpecRow : OpenClaim := { program := "qxb6600806a", sum := "3a397fb6d99fb6927f0f7eeeaeb67e44489b154475017df9ad0380e7de197f28", func := "example.com/assertion/assertion/zzlaws_internal_exactjson_b1.FnSkipSpaceSpec", spec := "fnSkipSpaceSpec", apart := false }
def FnSkipSpaceSpecSaid : Prop := fnSkipSpaceSpecRow.holds Try.pinned (OpenSpec.ofChange fnSkipSpaceSpecSpec)

/-- ITS FALSE NEIGHBOUR: 'it returns false'. Refute it at one input. -/
def fnSkipSpaceSpecWrong : ChangeSpec := { name := "fnSkipSpaceSpec", fn := fun _ => fun
  | [d1, d2] => { results := [.lit (.bool false)], args := [d1, d2] }
  | _ => none }
def FnSkipSpaceSpecWrongFalsely : Prop := fnSkipSpaceSpecRow.holds Try.pinned (OpenSpec.ofChange fnSkipSpaceSpecWrong)

/-- 'zzlaws_internal_exactjson_b1.FnSkipSpaceIdempotent': WHATEVER THE INPUT: true; the input reads as it did. -/
def fnSkipSpaceIdempotentSpec : ChangeSpec := { name := "fnSkipSpaceIdempotent", fn := fun _ => fun
  | [d1, d2] => { results := [.lit (.bool true)], args := [d1, d2] }
  | _ => none }
def fnSkipSpaceIdempotentRow : OpenClaim := { program := "qxb6600806a", sum := "3a397fb6d99fb6927f0f7eeeaeb67e44489b154475017df9ad0380e7de197f28", func := "example.com/assertion/assertion/zzlaws_internal_exactjson_b1.FnSkipSpaceIdempotent", spec := "fnSkipSpaceIdempotent", apart := false }
def FnSkipSpaceIdempotentSaid : Prop := fnSkipSpaceIdempotentRow.holds Try.pinned (OpenSpec.ofChange fnSkipSpaceIdempotentSpec)

/-- ITS FALSE NEIGHBOUR: 'it returns false'. Refute it at one input. -/
def fnSkipSpaceIdempotentWrong : ChangeSpec := { name := "fnSkipSpaceIdempotent", fn := fun _ => fun
  | [d1, d2] => { results := [.lit (.bool false)], args := [d1, d2] }
  | _ => none }
def FnSkipSpaceIdempotentWrongFalsely : Prop := fnSkipSpaceIdempotentRow.holds Try.pinned (OpenSpec.ofChange fnSkipSpaceIdempotentWrong)

/-- 'zzlaws_internal_exactjson_b1.FnSkipSpaceMonotone': WHATEVER THE INPUT: true; the input reads as it did. -/
def fnSkipSpaceMonotoneSpec : ChangeSpec := { name := "fnSkipSpaceMonotone", fn := fun _ => fun
  | [d1, d2, d3] => { results := [.lit (.bool true)], args := [d1, d2, d3] }
  | _ => none }
def fnSkipSpaceMonotoneRow : OpenClaim := { program := "qxb6600806a", sum := "3a397fb6d99fb6927f0f7eeeaeb67e44489b154475017df9ad0380e7de197f28", func := "example.com/assertion/assertion/zzlaws_internal_exactjson_b1.FnSkipSpaceMonotone", spec := "fnSkipSpaceMonotone", apart := false }
def FnSkipSpaceMonotoneSaid : Prop := fnSkipSpaceMonotoneRow.holds Try.pinned (OpenSpec.ofChange fnSkipSpaceMonotoneSpec)

/-- ITS FALSE NEIGHBOUR: 'it returns false'. Refute it at one input. -/
def fnSkipSpaceMonotoneWrong : ChangeSpec := { name := "fnSkipSpaceMonotone", fn := fun _ => fun
  | [d1, d2, d3] => { results := [.lit (.bool false)], args := [d1, d2, d3] }
  | _ => none }
def FnSkipSpaceMonotoneWrongFalsely : Prop := fnSkipSpaceMonotoneRow.holds Try.pinned (OpenSpec.ofChange fnSkipSpaceMonotoneWrong)

/-- 'zzlaws_internal_exactjson_b1.FnStringEndSpec': WHATEVER THE INPUT: true; the input reads as it did. -/
def fnStringEndSpecSpec : ChangeSpec := { name := "fnStringEndSpec", fn := fun _ => fun
  | [d1, d2] => { results := [.lit (.bool true)], args := [d1, d2] }
  | _ => none }
def fnStringEndSpecRow : OpenClaim := { program := "qxb6600806a", sum := "3a397fb6d99fb6927f0f7eeeaeb67e44489b154475017df9ad0380e7de197f28", func := "example.com/assertion/assertion/zzlaws_internal_exactjson_b1.FnStringEndSpec", spec := "fnStringEndSpec", apart := false }
def FnStringEndSpecSaid : Prop := fnStringEndSpecRow.holds Try.pinned (OpenSpec.ofChange fnStringEndSpecSpec)

/-- ITS FALSE NEIGHBOUR: 'it returns false'. Refute it at one input. -/
def fnStringEndSpecWrong : ChangeSpec := { name := "fnStringEndSpec", fn := fun _ => fun
  | [d1, d2] => { results := [.lit (.bool false)], args := [d1, d2] }
  | _ => none }
def FnStringEndSpecWrongFalsely : Prop := fnStringEndSpecRow.holds Try.pinned (OpenSpec.ofChange fnStringEndSpecWrong)

/-- 'zzlaws_internal_exactjson_b1.FnStringEndFindsWrittenString': WHATEVER THE INPUT: true; the input reads as it did. -/
def fnStringEndFindsWrittenStringSpec : ChangeSpec := { name := "fnStringEndFindsWrittenString", fn := fun _ => fun
  | [d1, d2, d3] => { results := [.lit (.bool true)], args := [d1, d2, d3] }
  | _ => none }
def fnStringEndFindsWrittenStringRow : OpenClaim := { program := "qxb6600806a", sum := "3a397fb6d99fb6927f0f7eeeaeb67e44489b154475017df9ad0380e7de197f28", func := "example.com/assertion/assertion/zzlaws_internal_exactjson_b1.FnStringEndFindsWrittenString", spec := "fnStringEndFindsWrittenString", apart := false }
def FnStringEndFindsWrittenStringSaid : Prop := fnStringEndFindsWrittenStringRow.holds Try.pinned (OpenSpec.ofChange fnStringEndFindsWrittenStringSpec)

/-- ITS FALSE NEIGHBOUR: 'it returns false'. Refute it at one input. -/
def fnStringEndFindsWrittenStringWrong : ChangeSpec := { name := "fnStringEndFindsWrittenString", fn := fun _ => fun
  | [d1, d2, d3] => { results := [.lit (.bool false)], args := [d1, d2, d3] }
  | _ => none }
def FnStringEndFindsWrittenStringWrongFalsely : Prop := fnStringEndFindsWrittenStringRow.holds Try.pinned (OpenSpec.ofChange fnStringEndFindsWrittenStringWrong)

/-- 'zzlaws_internal_exactjson_b1.FnValueEndSpec': WHATEVER THE INPUT: true; the input reads as it did. -/
def fnValueEndSpecSpec : ChangeSpec := { name := "fnValueEndSpec", fn := fun _ => fun
  | [d1, d2] => { results := [.lit (.bool true)], args := [d1, d2] }
  | _ => none }
def fnValueEndSpecRow : OpenClaim := { program := "qxb6600806a", sum := "3a397fb6d99fb6927f0f7eeeaeb67e44489b154475017df9ad0380e7de197f28", func := "example.com/assertion/assertion/zzlaws_internal_exactjson_b1.FnValueEndSpec", spec := "fnValueEndSpec", apart := false }
def FnValueEndSpecSaid : Prop := fnValueEndSpecRow.holds Try.pinned (OpenSpec.ofChange fnValueEndSpecSpec)

/-- ITS FALSE NEIGHBOUR: 'it returns false'. Refute it at one input. -/
def fnValueEndSpecWrong : ChangeSpec := { name := "fnValueEndSpec", fn := fun _ => fun
  | [d1, d2] => { results := [.lit (.bool false)], args := [d1, d2] }
  | _ => none }
def FnValueEndSpecWrongFalsely : Prop := fnValueEndSpecRow.holds Try.pinned (OpenSpec.ofChange fnValueEndSpecWrong)

/-- 'zzlaws_internal_exactjson_b1.FnValueEndFindsWrittenValue': WHATEVER THE INPUT: true; the input reads as it did. -/
def fnValueEndFindsWrittenValueSpec : ChangeSpec := { name := "fnValueEndFindsWrittenValue", fn := fun _ => fun
  | [d1, d2, d3] => { results := [.lit (.bool true)], args := [d1, d2, d3] }
  | _ => none }
def fnValueEndFindsWrittenValueRow : OpenClaim := { program := "qxb6600806a", sum := "3a397fb6d99fb6927f0f7eeeaeb67e44489b154475017df9ad0380e7de197f28", func := "example.com/assertion/assertion/zzlaws_internal_exactjson_b1.FnValueEndFindsWrittenValue", spec := "fnValueEndFindsWrittenValue", apart := false }
def FnValueEndFindsWrittenValueSaid : Prop := fnValueEndFindsWrittenValueRow.holds Try.pinned (OpenSpec.ofChange fnValueEndFindsWrittenValueSpec)

/-- ITS FALSE NEIGHBOUR: 'it returns false'. Refute it at one input. -/
def fnValueEndFindsWrittenValueWrong : ChangeSpec := { name := "fnValueEndFindsWrittenValue", fn := fun _ => fun
  | [d1, d2, d3] => { results := [.lit (.bool false)], args := [d1, d2, d3] }
  | _ => none }
def FnValueEndFindsWrittenValueWrongFalsely : Prop := fnValueEndFindsWrittenValueRow.holds Try.pinned (OpenSpec.ofChange fnValueEndFindsWrittenValueWrong)

/-- 'zzlaws_internal_exactjson_b1.FnValueEndTruncation': WHATEVER THE INPUT: true; the input reads as it did. -/
def fnValueEndTruncationSpec : ChangeSpec := { name := "fnValueEndTruncation", fn := fun _ => fun
  | [d1, d2] => { results := [.lit (.bool true)], args := [d1, d2] }
  | _ => none }
def fnValueEndTruncationRow : OpenClaim := { program := "qxb6600806a", sum := "3a397fb6d99fb6927f0f7eeeaeb67e44489b154475017df9ad0380e7de197f28", func := "example.com/assertion/assertion/zzlaws_internal_exactjson_b1.FnValueEndTruncation", spec := "fnValueEndTruncation", apart := false }
def FnValueEndTruncationSaid : Prop := fnValueEndTruncationRow.holds Try.pinned (OpenSpec.ofChange fnValueEndTruncationSpec)

/-- ITS FALSE NEIGHBOUR: 'it returns false'. Refute it at one input. -/
def fnValueEndTruncationWrong : ChangeSpec := { name := "fnValueEndTruncation", fn := fun _ => fun
  | [d1, d2] => { results := [.lit (.bool false)], args := [d1, d2] }
  | _ => none }
def FnValueEndTruncationWrongFalsely : Prop := fnValueEndTruncationRow.holds Try.pinned (OpenSpec.ofChange fnValueEndTruncationWrong)

end Rows
end Go.Proofs.Qxb6600806a
