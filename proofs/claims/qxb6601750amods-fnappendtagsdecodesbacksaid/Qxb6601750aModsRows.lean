/-
  No cell of these rows narrows 'for every input' (looked for: loops, veiled, ifaces, maps, wideKeys, modest, calm, conditions, laid).
  DERIVED. THE GIVEN ROWS OF THIS SEAT. 2 by the template 'for every input the law returns true; each argument reads behind the call as it read before'; 0 by the template 'total and deterministic' (their statements: Qxb6601750aModsTotals.lean).
  GIVEN WITH THE SEED: the statements are not yours to turn. If you find one false, say at which input.
  Laid BY PROGRAM, IN A SANDBOX (cutbox-rows.mjs): the forced cells as the released guide's own fill.sh prints them over the translation 244240a3bac2cf0c… (all of the seat's roots in one cut). By AI agents, Wed Nov 11 2026. No macro, syntax, notation, axiom, sorry.
-/
import Derived.Test.Qxb6601750aModsChecked
import GoSem.Claim
import GoSem.ClaimJoined
import GoSem.ClaimMapViews
import Derived.JoinedTies
import Derived.KernelRfl
namespace Go.Proofs.Qxb6601750aMods
/- THE CELL 'sum', in the pinned program and in every row, IS THE sha256 OF THE DUMP (.gsa) THAT Qxb6601750aModsProg.lean LOADS. Nothing in Lean hashes anything: it is a label: what it is worth is what the hold of that sum in a sandbox is worth. -/
noncomputable def Trym.pinned : Pinned := { name := "qxb6601750amods", sum := "244240a3bac2cf0c0ba7c28ac3a18dad2a230530c7aca7269283c414ffb06154", checked := Trym.checked }
namespace Rows
def none {H : Type} : Left H := { results := [], args := [] }

/-- 'zzlaws_jaeger_b1.FnAppendTagsMatchesModel': WHATEVER THE INPUT: true; the input reads as it did. -/
def fnAppendTagsMatchesModelSpec : ChangeSpec := { name := "fnAppendTagsMatchesModel", fn := fun _ => fun
  | [d1, d2] => { results := [.lit (.bool true)], args := [d1, d2] }
  | _ => none }
def fnAppendTagsMatchesModelRow : OpenClaim := { program := "qxb6601750amods", sum := "244240a3bac2cf0c0ba7c28ac3a18dad2a230530c7aca7269283c414ffb06154", func := "example.com/clotho/clotho/zzlaws_jaeger_b1.FnAppendTagsMatchesModel", spec := "fnAppendTagsMatchesModel", make := .lifted ["publicsums"], apart := false }
def FnAppendTagsMatchesModelSaid : Prop := fnAppendTagsMatchesModelRow.holds Trym.pinned (OpenSpec.ofChange fnAppendTagsMatchesModelSpec)

/-- ITS FALSE NEIGHBOUR: 'it returns false'. Refute it at one input. -/
def fnAppendTagsMatchesModelWrong : ChangeSpec := { name := "fnAppendTagsMatchesModel", fn := fun _ => fun
  | [d1, d2] => { results := [.lit (.bool false)], args := [d1, d2] }
  | _ => none }
def FnAppendTagsMatchesModelWrongFalsely : Prop := fnAppendTagsMatchesModelRow.holds Trym.pinned (OpenSpec.ofChange fnAppendTagsMatchesModelWrong)

/-- 'zzlaws_jaeger_b1.FnAppendTagsDecodesBack': WHATEVER THE INPUT: true; the input reads as it did. -/
def fnAppendTagsDecodesBackSpec : ChangeSpec := { name := "fnAppendTagsDecodesBack", fn := fun _ => fun
  | [d1, d2] => { results := [.lit (.bool true)], args := [d1, d2] }
  | _ => none }
def fnAppendTagsDecodesBackRow : OpenClaim := { program := "qxb6601750amods", sum := "244240a3bac2cf0c0ba7c28ac3a18dad2a230530c7aca7269283c414ffb06154", func := "example.com/clotho/clotho/zzlaws_jaeger_b1.FnAppendTagsDecodesBack", spec := "fnAppendTagsDecodesBack", make := .lifted ["publicsums"], apart := false }
def FnAppendTagsDecodesBackSaid : Prop := fnAppendTagsDecodesBackRow.holds Trym.pinned (OpenSpec.ofChange fnAppendTagsDecodesBackSpec)

/-- ITS FALSE NEIGHBOUR: 'it returns false'. Refute it at one input. -/
def fnAppendTagsDecodesBackWrong : ChangeSpec := { name := "fnAppendTagsDecodesBack", fn := fun _ => fun
  | [d1, d2] => { results := [.lit (.bool false)], args := [d1, d2] }
  | _ => none }
def FnAppendTagsDecodesBackWrongFalsely : Prop := fnAppendTagsDecodesBackRow.holds Trym.pinned (OpenSpec.ofChange fnAppendTagsDecodesBackWrong)

end Rows
end Go.Proofs.Qxb6601750aMods
