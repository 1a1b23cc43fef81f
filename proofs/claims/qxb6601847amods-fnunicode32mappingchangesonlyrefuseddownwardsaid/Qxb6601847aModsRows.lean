/-
  No cell of these rows narrows 'for every input' (looked for: loops, veiled, ifaces, maps, wideKeys, modest, calm, conditions, laid).
  DERIVED. THE GIVEN ROWS OF THIS SEAT. 7 by the template 'for every input the law returns true; each argument reads behind the call as it read before'; 0 by the template 'total and deterministic' (their statements: Qxb6601847aModsTotals.lean).
  GIVEN WITH THE SEED: the statements are not yours to turn. If you find one false, say at which input.
  Laid BY PROGRAM, IN A SANDBOX (cutbox-rows.mjs): the forced cells as the released guide's own fill.sh prints them over the translation 1b4f64a2d98df58f… (all of the seat's roots in one cut). By AI agents, Wed Nov 11 2026. No macro, syntax, notation, axiom, sorry.
-/
import Derived.Test.Qxb6601847aModsChecked
import GoSem.Claim
import GoSem.ClaimJoined
import GoSem.ClaimMapViews
import Derived.JoinedTies
import Derived.KernelRfl
namespace Go.Proofs.Qxb6601847aMods
/- THE CELL 'sum', in the pinned program and in every row, IS THE sha256 OF THE DUMP (.gsa) THAT Qxb6601847aModsProg.lean LOADS. Nothing in Lean hashes anything: it is a label: what it is worth is what the hold of that sum in a sandbox is worth. -/
noncomputable def Trym.pinned : Pinned := { name := "qxb6601847amods", sum := "1b4f64a2d98df58f3b73dc3d0c533d9dad6c8bbd2e0bd34eaaa296d2fea1715b", checked := Trym.checked }
namespace Rows
def none {H : Type} : Left H := { results := [], args := [] }

/-- 'zzlaws_root_b1.FnWithLineFeedsMatchesBackwardScan': WHATEVER THE INPUT: true; the input reads as it did. -/
def fnWithLineFeedsMatchesBackwardScanSpec : ChangeSpec := { name := "fnWithLineFeedsMatchesBackwardScan", fn := fun _ => fun
  | [d] => { results := [.lit (.bool true)], args := [d] }
  | _ => none }
def fnWithLineFeedsMatchesBackwardScanRow : OpenClaim := { program := "qxb6601847amods", sum := "1b4f64a2d98df58f3b73dc3d0c533d9dad6c8bbd2e0bd34eaaa296d2fea1715b", func := "example.com/signpost/signpost/zzlaws_root_b1.FnWithLineFeedsMatchesBackwardScan", spec := "fnWithLineFeedsMatchesBackwardScan", inPlace := ["internal/bytealg.IndexByte", "internal/bytealg.Index"], named := ["internal/bytealg.MaxLen"], make := .lifted ["publicsums"], apart := false }
def FnWithLineFeedsMatchesBackwardScanSaid : Prop := fnWithLineFeedsMatchesBackwardScanRow.holds Trym.pinned (OpenSpec.ofChange fnWithLineFeedsMatchesBackwardScanSpec)

/-- ITS FALSE NEIGHBOUR: 'it returns false'. Refute it at one input. -/
def fnWithLineFeedsMatchesBackwardScanWrong : ChangeSpec := { name := "fnWithLineFeedsMatchesBackwardScan", fn := fun _ => fun
  | [d] => { results := [.lit (.bool false)], args := [d] }
  | _ => none }
def FnWithLineFeedsMatchesBackwardScanWrongFalsely : Prop := fnWithLineFeedsMatchesBackwardScanRow.holds Trym.pinned (OpenSpec.ofChange fnWithLineFeedsMatchesBackwardScanWrong)

/-- 'zzlaws_root_b1.FnWithLineFeedsOffsetsLeadBackToSource': WHATEVER THE INPUT: true; the input reads as it did. -/
def fnWithLineFeedsOffsetsLeadBackToSourceSpec : ChangeSpec := { name := "fnWithLineFeedsOffsetsLeadBackToSource", fn := fun _ => fun
  | [d] => { results := [.lit (.bool true)], args := [d] }
  | _ => none }
def fnWithLineFeedsOffsetsLeadBackToSourceRow : OpenClaim := { program := "qxb6601847amods", sum := "1b4f64a2d98df58f3b73dc3d0c533d9dad6c8bbd2e0bd34eaaa296d2fea1715b", func := "example.com/signpost/signpost/zzlaws_root_b1.FnWithLineFeedsOffsetsLeadBackToSource", spec := "fnWithLineFeedsOffsetsLeadBackToSource", inPlace := ["internal/bytealg.IndexByte", "internal/bytealg.Index"], named := ["internal/bytealg.MaxLen"], make := .lifted ["publicsums"], apart := false }
def FnWithLineFeedsOffsetsLeadBackToSourceSaid : Prop := fnWithLineFeedsOffsetsLeadBackToSourceRow.holds Trym.pinned (OpenSpec.ofChange fnWithLineFeedsOffsetsLeadBackToSourceSpec)

/-- ITS FALSE NEIGHBOUR: 'it returns false'. Refute it at one input. -/
def fnWithLineFeedsOffsetsLeadBackToSourceWrong : ChangeSpec := { name := "fnWithLineFeedsOffsetsLeadBackToSource", fn := fun _ => fun
  | [d] => { results := [.lit (.bool false)], args := [d] }
  | _ => none }
def FnWithLineFeedsOffsetsLeadBackToSourceWrongFalsely : Prop := fnWithLineFeedsOffsetsLeadBackToSourceRow.holds Trym.pinned (OpenSpec.ofChange fnWithLineFeedsOffsetsLeadBackToSourceWrong)

/-- 'zzlaws_root_b1.FnWithLineFeedsIdempotent': WHATEVER THE INPUT: true; the input reads as it did. -/
def fnWithLineFeedsIdempotentSpec : ChangeSpec := { name := "fnWithLineFeedsIdempotent", fn := fun _ => fun
  | [d] => { results := [.lit (.bool true)], args := [d] }
  | _ => none }
def fnWithLineFeedsIdempotentRow : OpenClaim := { program := "qxb6601847amods", sum := "1b4f64a2d98df58f3b73dc3d0c533d9dad6c8bbd2e0bd34eaaa296d2fea1715b", func := "example.com/signpost/signpost/zzlaws_root_b1.FnWithLineFeedsIdempotent", spec := "fnWithLineFeedsIdempotent", inPlace := ["internal/bytealg.IndexByte", "internal/bytealg.Index"], named := ["internal/bytealg.MaxLen"], make := .lifted ["publicsums"], apart := false }
def FnWithLineFeedsIdempotentSaid : Prop := fnWithLineFeedsIdempotentRow.holds Trym.pinned (OpenSpec.ofChange fnWithLineFeedsIdempotentSpec)

/-- ITS FALSE NEIGHBOUR: 'it returns false'. Refute it at one input. -/
def fnWithLineFeedsIdempotentWrong : ChangeSpec := { name := "fnWithLineFeedsIdempotent", fn := fun _ => fun
  | [d] => { results := [.lit (.bool false)], args := [d] }
  | _ => none }
def FnWithLineFeedsIdempotentWrongFalsely : Prop := fnWithLineFeedsIdempotentRow.holds Trym.pinned (OpenSpec.ofChange fnWithLineFeedsIdempotentWrong)

/-- 'zzlaws_root_b1.FnUnicode32MappingIdempotent': WHATEVER THE INPUT: true; the input reads as it did. -/
def fnUnicode32MappingIdempotentSpec : ChangeSpec := { name := "fnUnicode32MappingIdempotent", fn := fun _ => fun
  | [d] => { results := [.lit (.bool true)], args := [d] }
  | _ => none }
def fnUnicode32MappingIdempotentRow : OpenClaim := { program := "qxb6601847amods", sum := "1b4f64a2d98df58f3b73dc3d0c533d9dad6c8bbd2e0bd34eaaa296d2fea1715b", func := "example.com/signpost/signpost/zzlaws_root_b1.FnUnicode32MappingIdempotent", spec := "fnUnicode32MappingIdempotent", make := .lifted ["publicsums"], apart := false }
def FnUnicode32MappingIdempotentSaid : Prop := fnUnicode32MappingIdempotentRow.holds Trym.pinned (OpenSpec.ofChange fnUnicode32MappingIdempotentSpec)

/-- ITS FALSE NEIGHBOUR: 'it returns false'. Refute it at one input. -/
def fnUnicode32MappingIdempotentWrong : ChangeSpec := { name := "fnUnicode32MappingIdempotent", fn := fun _ => fun
  | [d] => { results := [.lit (.bool false)], args := [d] }
  | _ => none }
def FnUnicode32MappingIdempotentWrongFalsely : Prop := fnUnicode32MappingIdempotentRow.holds Trym.pinned (OpenSpec.ofChange fnUnicode32MappingIdempotentWrong)

/-- 'zzlaws_root_b1.FnUnicode32MappingChangesOnlyRefusedDownward': WHATEVER THE INPUT: true; the input reads as it did. -/
def fnUnicode32MappingChangesOnlyRefusedDownwardSpec : ChangeSpec := { name := "fnUnicode32MappingChangesOnlyRefusedDownward", fn := fun _ => fun
  | [d] => { results := [.lit (.bool true)], args := [d] }
  | _ => none }
def fnUnicode32MappingChangesOnlyRefusedDownwardRow : OpenClaim := { program := "qxb6601847amods", sum := "1b4f64a2d98df58f3b73dc3d0c533d9dad6c8bbd2e0bd34eaaa296d2fea1715b", func := "example.com/signpost/signpost/zzlaws_root_b1.FnUnicode32MappingChangesOnlyRefusedDownward", spec := "fnUnicode32MappingChangesOnlyRefusedDownward", make := .lifted ["publicsums"], apart := false }
def FnUnicode32MappingChangesOnlyRefusedDownwardSaid : Prop := fnUnicode32MappingChangesOnlyRefusedDownwardRow.holds Trym.pinned (OpenSpec.ofChange fnUnicode32MappingChangesOnlyRefusedDownwardSpec)

/-- ITS FALSE NEIGHBOUR: 'it returns false'. Refute it at one input. -/
def fnUnicode32MappingChangesOnlyRefusedDownwardWrong : ChangeSpec := { name := "fnUnicode32MappingChangesOnlyRefusedDownward", fn := fun _ => fun
  | [d] => { results := [.lit (.bool false)], args := [d] }
  | _ => none }
def FnUnicode32MappingChangesOnlyRefusedDownwardWrongFalsely : Prop := fnUnicode32MappingChangesOnlyRefusedDownwardRow.holds Trym.pinned (OpenSpec.ofChange fnUnicode32MappingChangesOnlyRefusedDownwardWrong)

/-- 'zzlaws_root_b1.FnJudgePathPiecewiseEqualsWhole': WHATEVER THE INPUT: true; the input reads as it did. -/
def fnJudgePathPiecewiseEqualsWholeSpec : ChangeSpec := { name := "fnJudgePathPiecewiseEqualsWhole", fn := fun _ => fun
  | [d1, d2, d3, d4, d5, d6, d7] => { results := [.lit (.bool true)], args := [d1, d2, d3, d4, d5, d6, d7] }
  | _ => none }
def fnJudgePathPiecewiseEqualsWholeRow : OpenClaim := { program := "qxb6601847amods", sum := "1b4f64a2d98df58f3b73dc3d0c533d9dad6c8bbd2e0bd34eaaa296d2fea1715b", func := "example.com/signpost/signpost/zzlaws_root_b1.FnJudgePathPiecewiseEqualsWhole", spec := "fnJudgePathPiecewiseEqualsWhole", inPlace := ["internal/bytealg.IndexByte"], make := .lifted ["publicsums"], apart := false }
def FnJudgePathPiecewiseEqualsWholeSaid : Prop := fnJudgePathPiecewiseEqualsWholeRow.holds Trym.pinned (OpenSpec.ofChange fnJudgePathPiecewiseEqualsWholeSpec)

/-- ITS FALSE NEIGHBOUR: 'it returns false'. Refute it at one input. -/
def fnJudgePathPiecewiseEqualsWholeWrong : ChangeSpec := { name := "fnJudgePathPiecewiseEqualsWhole", fn := fun _ => fun
  | [d1, d2, d3, d4, d5, d6, d7] => { results := [.lit (.bool false)], args := [d1, d2, d3, d4, d5, d6, d7] }
  | _ => none }
def FnJudgePathPiecewiseEqualsWholeWrongFalsely : Prop := fnJudgePathPiecewiseEqualsWholeRow.holds Trym.pinned (OpenSpec.ofChange fnJudgePathPiecewiseEqualsWholeWrong)

/-- 'zzlaws_root_b1.FnJudgePathFreshVerdictIsReadablePath': WHATEVER THE INPUT: true; the input reads as it did. -/
def fnJudgePathFreshVerdictIsReadablePathSpec : ChangeSpec := { name := "fnJudgePathFreshVerdictIsReadablePath", fn := fun _ => fun
  | [d] => { results := [.lit (.bool true)], args := [d] }
  | _ => none }
def fnJudgePathFreshVerdictIsReadablePathRow : OpenClaim := { program := "qxb6601847amods", sum := "1b4f64a2d98df58f3b73dc3d0c533d9dad6c8bbd2e0bd34eaaa296d2fea1715b", func := "example.com/signpost/signpost/zzlaws_root_b1.FnJudgePathFreshVerdictIsReadablePath", spec := "fnJudgePathFreshVerdictIsReadablePath", inPlace := ["internal/bytealg.IndexByte"], make := .lifted ["publicsums"], apart := false }
def FnJudgePathFreshVerdictIsReadablePathSaid : Prop := fnJudgePathFreshVerdictIsReadablePathRow.holds Trym.pinned (OpenSpec.ofChange fnJudgePathFreshVerdictIsReadablePathSpec)

/-- ITS FALSE NEIGHBOUR: 'it returns false'. Refute it at one input. -/
def fnJudgePathFreshVerdictIsReadablePathWrong : ChangeSpec := { name := "fnJudgePathFreshVerdictIsReadablePath", fn := fun _ => fun
  | [d] => { results := [.lit (.bool false)], args := [d] }
  | _ => none }
def FnJudgePathFreshVerdictIsReadablePathWrongFalsely : Prop := fnJudgePathFreshVerdictIsReadablePathRow.holds Trym.pinned (OpenSpec.ofChange fnJudgePathFreshVerdictIsReadablePathWrong)

end Rows
end Go.Proofs.Qxb6601847aMods
