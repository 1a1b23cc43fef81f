/-
  No cell of these rows narrows 'for every input' (looked for: loops, veiled, ifaces, maps, wideKeys, modest, calm, conditions, laid).
  DERIVED. THE GIVEN ROWS OF THIS SEAT. 4 by the template 'for every input the law returns true; each argument reads behind the call as it read before'; 0 by the template 'total and deterministic' (their statements: Qxb6601483aModsTotals.lean).
  GIVEN WITH THE SEED: the statements are not yours to turn. If you find one false, say at which input.
  Laid BY PROGRAM, IN A SANDBOX (cutbox-rows.mjs): the forced cells as the released guide's own fill.sh prints them over the translation e1f9bea19a39d2ff… (all of the seat's roots in one cut). By AI agents, Wed Nov 11 2026. No macro, syntax, notation, axiom, sorry.
-/
import Derived.Test.Qxb6601483aModsChecked
import GoSem.Claim
import GoSem.ClaimJoined
import GoSem.ClaimMapViews
import Derived.JoinedTies
import Derived.KernelRfl
namespace Go.Proofs.Qxb6601483aMods
/- THE CELL 'sum', in the pinned program and in every row, IS THE sha256 OF THE DUMP (.gsa) THAT Qxb6601483aModsProg.lean LOADS. Nothing in Lean hashes anything: it is a label: what it is worth is what the hold of that sum in a sandbox is worth. -/
noncomputable def Trym.pinned : Pinned := { name := "qxb6601483amods", sum := "e1f9bea19a39d2ff6e6074b5fe61a6df195ba599eef81f87b039f0d8555fd197", checked := Trym.checked }
namespace Rows
def none {H : Type} : Left H := { results := [], args := [] }

/-- 'zzlaws_internal_pack_b1.FnAppendCopyDecodesToCanonicalCopies': WHATEVER THE INPUT: true; the input reads as it did. -/
def fnAppendCopyDecodesToCanonicalCopiesSpec : ChangeSpec := { name := "fnAppendCopyDecodesToCanonicalCopies", fn := fun _ => fun
  | [d1, d2, d3] => { results := [.lit (.bool true)], args := [d1, d2, d3] }
  | _ => none }
def fnAppendCopyDecodesToCanonicalCopiesRow : OpenClaim := { program := "qxb6601483amods", sum := "e1f9bea19a39d2ff6e6074b5fe61a6df195ba599eef81f87b039f0d8555fd197", func := "example.com/packwire/packwire/zzlaws_internal_pack_b1.FnAppendCopyDecodesToCanonicalCopies", spec := "fnAppendCopyDecodesToCanonicalCopies", make := .lifted ["publicsums"], apart := false }
def FnAppendCopyDecodesToCanonicalCopiesSaid : Prop := fnAppendCopyDecodesToCanonicalCopiesRow.holds Trym.pinned (OpenSpec.ofChange fnAppendCopyDecodesToCanonicalCopiesSpec)

/-- ITS FALSE NEIGHBOUR: 'it returns false'. Refute it at one input. -/
def fnAppendCopyDecodesToCanonicalCopiesWrong : ChangeSpec := { name := "fnAppendCopyDecodesToCanonicalCopies", fn := fun _ => fun
  | [d1, d2, d3] => { results := [.lit (.bool false)], args := [d1, d2, d3] }
  | _ => none }
def FnAppendCopyDecodesToCanonicalCopiesWrongFalsely : Prop := fnAppendCopyDecodesToCanonicalCopiesRow.holds Trym.pinned (OpenSpec.ofChange fnAppendCopyDecodesToCanonicalCopiesWrong)

/-- 'zzlaws_internal_pack_b1.FnAppendCopySplitsAtWholeChunks': WHATEVER THE INPUT: true; the input reads as it did. -/
def fnAppendCopySplitsAtWholeChunksSpec : ChangeSpec := { name := "fnAppendCopySplitsAtWholeChunks", fn := fun _ => fun
  | [d1, d2, d3, d4] => { results := [.lit (.bool true)], args := [d1, d2, d3, d4] }
  | _ => none }
def fnAppendCopySplitsAtWholeChunksRow : OpenClaim := { program := "qxb6601483amods", sum := "e1f9bea19a39d2ff6e6074b5fe61a6df195ba599eef81f87b039f0d8555fd197", func := "example.com/packwire/packwire/zzlaws_internal_pack_b1.FnAppendCopySplitsAtWholeChunks", spec := "fnAppendCopySplitsAtWholeChunks", make := .lifted ["publicsums"], apart := false }
def FnAppendCopySplitsAtWholeChunksSaid : Prop := fnAppendCopySplitsAtWholeChunksRow.holds Trym.pinned (OpenSpec.ofChange fnAppendCopySplitsAtWholeChunksSpec)

/-- ITS FALSE NEIGHBOUR: 'it returns false'. Refute it at one input. -/
def fnAppendCopySplitsAtWholeChunksWrong : ChangeSpec := { name := "fnAppendCopySplitsAtWholeChunks", fn := fun _ => fun
  | [d1, d2, d3, d4] => { results := [.lit (.bool false)], args := [d1, d2, d3, d4] }
  | _ => none }
def FnAppendCopySplitsAtWholeChunksWrongFalsely : Prop := fnAppendCopySplitsAtWholeChunksRow.holds Trym.pinned (OpenSpec.ofChange fnAppendCopySplitsAtWholeChunksWrong)

/-- 'zzlaws_internal_pack_b1.FnRecordsAddKeepsEveryRecordInPlace': WHATEVER THE INPUT: true; the input reads as it did. -/
def fnRecordsAddKeepsEveryRecordInPlaceSpec : ChangeSpec := { name := "fnRecordsAddKeepsEveryRecordInPlace", fn := fun _ => fun
  | [d] => { results := [.lit (.bool true)], args := [d] }
  | _ => none }
def fnRecordsAddKeepsEveryRecordInPlaceRow : OpenClaim := { program := "qxb6601483amods", sum := "e1f9bea19a39d2ff6e6074b5fe61a6df195ba599eef81f87b039f0d8555fd197", func := "example.com/packwire/packwire/zzlaws_internal_pack_b1.FnRecordsAddKeepsEveryRecordInPlace", spec := "fnRecordsAddKeepsEveryRecordInPlace", make := .lifted ["publicsums"], apart := false }
def FnRecordsAddKeepsEveryRecordInPlaceSaid : Prop := fnRecordsAddKeepsEveryRecordInPlaceRow.holds Trym.pinned (OpenSpec.ofChange fnRecordsAddKeepsEveryRecordInPlaceSpec)

/-- ITS FALSE NEIGHBOUR: 'it returns false'. Refute it at one input. -/
def fnRecordsAddKeepsEveryRecordInPlaceWrong : ChangeSpec := { name := "fnRecordsAddKeepsEveryRecordInPlace", fn := fun _ => fun
  | [d] => { results := [.lit (.bool false)], args := [d] }
  | _ => none }
def FnRecordsAddKeepsEveryRecordInPlaceWrongFalsely : Prop := fnRecordsAddKeepsEveryRecordInPlaceRow.holds Trym.pinned (OpenSpec.ofChange fnRecordsAddKeepsEveryRecordInPlaceWrong)

/-- 'zzlaws_internal_pack_b1.FnRecordsAddNeverMovesFullBlocks': WHATEVER THE INPUT: true; the input reads as it did. -/
def fnRecordsAddNeverMovesFullBlocksSpec : ChangeSpec := { name := "fnRecordsAddNeverMovesFullBlocks", fn := fun _ => fun
  | [d] => { results := [.lit (.bool true)], args := [d] }
  | _ => none }
def fnRecordsAddNeverMovesFullBlocksRow : OpenClaim := { program := "qxb6601483amods", sum := "e1f9bea19a39d2ff6e6074b5fe61a6df195ba599eef81f87b039f0d8555fd197", func := "example.com/packwire/packwire/zzlaws_internal_pack_b1.FnRecordsAddNeverMovesFullBlocks", spec := "fnRecordsAddNeverMovesFullBlocks", make := .lifted ["publicsums"], apart := false }
def FnRecordsAddNeverMovesFullBlocksSaid : Prop := fnRecordsAddNeverMovesFullBlocksRow.holds Trym.pinned (OpenSpec.ofChange fnRecordsAddNeverMovesFullBlocksSpec)

/-- ITS FALSE NEIGHBOUR: 'it returns false'. Refute it at one input. -/
def fnRecordsAddNeverMovesFullBlocksWrong : ChangeSpec := { name := "fnRecordsAddNeverMovesFullBlocks", fn := fun _ => fun
  | [d] => { results := [.lit (.bool false)], args := [d] }
  | _ => none }
def FnRecordsAddNeverMovesFullBlocksWrongFalsely : Prop := fnRecordsAddNeverMovesFullBlocksRow.holds Trym.pinned (OpenSpec.ofChange fnRecordsAddNeverMovesFullBlocksWrong)

end Rows
end Go.Proofs.Qxb6601483aMods
