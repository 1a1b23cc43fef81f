/-
  No cell of these rows narrows 'for every input' (looked for: loops, veiled, ifaces, maps, wideKeys, modest, calm, conditions, laid).
  DERIVED. THE GIVEN ROWS OF THIS SEAT. 3 by the template 'for every input the law returns true; each argument reads behind the call as it read before'; 0 by the template 'total and deterministic' (their statements: Qxb6602064aModsTotals.lean).
  GIVEN WITH THE SEED: the statements are not yours to turn. If you find one false, say at which input.
  Laid BY PROGRAM, IN A SANDBOX (cutbox-rows.mjs): the forced cells as the released guide's own fill.sh prints them over the translation 1e3b00685c678e10… (all of the seat's roots in one cut). By AI agents, Wed Nov 11 2026. No macro, syntax, notation, axiom, sorry.
-/
import Derived.Test.Qxb6602064aModsChecked
import GoSem.Claim
import GoSem.ClaimJoined
import GoSem.ClaimMapViews
import Derived.JoinedTies
import Derived.KernelRfl
namespace Go.Proofs.Qxb6602064aMods
/- THE CELL 'sum', in the pinned program and in every row, IS THE sha256 OF THE DUMP (.gsa) THAT Qxb6602064aModsProg.lean LOADS. Nothing in Lean hashes anything: it is a label: what it is worth is what the hold of that sum in a sandbox is worth. -/
noncomputable def Trym.pinned : Pinned := { name := "qxb6602064amods", sum := "1e3b00685c678e10147c9cf044586905d2827a5f4582bffac6682134aa467c71", checked := Trym.checked }
namespace Rows
def none {H : Type} : Left H := { results := [], args := [] }

/-- 'zzlaws_pkg_store_b1.FnIsIDMatchesGroupModel': WHATEVER THE INPUT: true; the input reads as it did. -/
def fnIsIDMatchesGroupModelSpec : ChangeSpec := { name := "fnIsIDMatchesGroupModel", fn := fun _ => fun
  | [d] => { results := [.lit (.bool true)], args := [d] }
  | _ => none }
def fnIsIDMatchesGroupModelRow : OpenClaim := { program := "qxb6602064amods", sum := "1e3b00685c678e10147c9cf044586905d2827a5f4582bffac6682134aa467c71", func := "example.com/gatewright/gatewright/zzlaws_pkg_store_b1.FnIsIDMatchesGroupModel", spec := "fnIsIDMatchesGroupModel", make := .lifted ["publicsums"], apart := false }
def FnIsIDMatchesGroupModelSaid : Prop := fnIsIDMatchesGroupModelRow.holds Trym.pinned (OpenSpec.ofChange fnIsIDMatchesGroupModelSpec)

/-- ITS FALSE NEIGHBOUR: 'it returns false'. Refute it at one input. -/
def fnIsIDMatchesGroupModelWrong : ChangeSpec := { name := "fnIsIDMatchesGroupModel", fn := fun _ => fun
  | [d] => { results := [.lit (.bool false)], args := [d] }
  | _ => none }
def FnIsIDMatchesGroupModelWrongFalsely : Prop := fnIsIDMatchesGroupModelRow.holds Trym.pinned (OpenSpec.ofChange fnIsIDMatchesGroupModelWrong)

/-- 'zzlaws_pkg_store_b1.FnIsIDAcceptsEveryRendering': WHATEVER THE INPUT: true; the input reads as it did. -/
def fnIsIDAcceptsEveryRenderingSpec : ChangeSpec := { name := "fnIsIDAcceptsEveryRendering", fn := fun _ => fun
  | [d] => { results := [.lit (.bool true)], args := [d] }
  | _ => none }
def fnIsIDAcceptsEveryRenderingRow : OpenClaim := { program := "qxb6602064amods", sum := "1e3b00685c678e10147c9cf044586905d2827a5f4582bffac6682134aa467c71", func := "example.com/gatewright/gatewright/zzlaws_pkg_store_b1.FnIsIDAcceptsEveryRendering", spec := "fnIsIDAcceptsEveryRendering", make := .lifted ["publicsums"], apart := false }
def FnIsIDAcceptsEveryRenderingSaid : Prop := fnIsIDAcceptsEveryRenderingRow.holds Trym.pinned (OpenSpec.ofChange fnIsIDAcceptsEveryRenderingSpec)

/-- ITS FALSE NEIGHBOUR: 'it returns false'. Refute it at one input. -/
def fnIsIDAcceptsEveryRenderingWrong : ChangeSpec := { name := "fnIsIDAcceptsEveryRendering", fn := fun _ => fun
  | [d] => { results := [.lit (.bool false)], args := [d] }
  | _ => none }
def FnIsIDAcceptsEveryRenderingWrongFalsely : Prop := fnIsIDAcceptsEveryRenderingRow.holds Trym.pinned (OpenSpec.ofChange fnIsIDAcceptsEveryRenderingWrong)

/-- 'zzlaws_pkg_store_b1.FnIsIDAcceptedIsRendering': WHATEVER THE INPUT: true; the input reads as it did. -/
def fnIsIDAcceptedIsRenderingSpec : ChangeSpec := { name := "fnIsIDAcceptedIsRendering", fn := fun _ => fun
  | [d] => { results := [.lit (.bool true)], args := [d] }
  | _ => none }
def fnIsIDAcceptedIsRenderingRow : OpenClaim := { program := "qxb6602064amods", sum := "1e3b00685c678e10147c9cf044586905d2827a5f4582bffac6682134aa467c71", func := "example.com/gatewright/gatewright/zzlaws_pkg_store_b1.FnIsIDAcceptedIsRendering", spec := "fnIsIDAcceptedIsRendering", make := .lifted ["publicsums"], apart := false }
def FnIsIDAcceptedIsRenderingSaid : Prop := fnIsIDAcceptedIsRenderingRow.holds Trym.pinned (OpenSpec.ofChange fnIsIDAcceptedIsRenderingSpec)

/-- ITS FALSE NEIGHBOUR: 'it returns false'. Refute it at one input. -/
def fnIsIDAcceptedIsRenderingWrong : ChangeSpec := { name := "fnIsIDAcceptedIsRendering", fn := fun _ => fun
  | [d] => { results := [.lit (.bool false)], args := [d] }
  | _ => none }
def FnIsIDAcceptedIsRenderingWrongFalsely : Prop := fnIsIDAcceptedIsRenderingRow.holds Trym.pinned (OpenSpec.ofChange fnIsIDAcceptedIsRenderingWrong)

end Rows
end Go.Proofs.Qxb6602064aMods
