/-
  'Rows.FnRecordsAddKeepsEveryRecordInPlaceSaid' proved. The frame is the guide's own way for a law over one slice; the walk is Qxb6601483aModsKeepWalk.
-/
import Derived.Test.Qxb6601483aModsRows
import Derived.Test.Qxb6601483aModsKeepWalk
import Derived.Test.Qxb6601483aModsRecArg
import Derived.WalkKit
import Derived.ProofKit
import Derived.ShutString
import Derived.ChangeOld
import Derived.Below
namespace Go.Proofs.Qxb6601483aMods.fnRecordsAddKeepsEveryRecordInPlace
open Go.ChangeShapes Go.WideShapes Go.ChangeAt Go.RowKit
set_option linter.unusedVariables false

theorem own : ownKnob Trym.prog.godebug = none := by kernel_rfl
theorem laidOut : laidOutB Trym.prog = true := by kernel_rfl

set_option maxRecDepth 100000 in
theorem walk (a0 : Option Addr) (len0 cap0 : Nat) (Q : List (List Value × Int × Int)) (w : World) (hQ : ∀ q ∈ Q, RecOk q) (hr : RecsIn w a0 len0 cap0 (Q.map cellsOf)) (hl : Q.length = len0) (hm : len0 ≤ 9223372036854775807) :
    Calls Trym.prog 5 #[.slice a0 len0 cap0] w fun e w' => e = .returned (.bool true) ∧ Below w.heap.size w w' := by
  by_cases hn : len0 ≤ 32768
  · exact f5_main a0 len0 cap0 Q w hQ hr (by omega)
  · have hi : (32768 : Int) < (len0 : Int) := by omega
    go_enter Trym.func5, Trym.ntmps5
    go_wp2_with fail
    refine (f12_any a0 len0 cap0 _ hm).mono ?_
    rintro e w' ⟨⟨b, rfl⟩, rfl⟩
    cases b with
    | false =>
      go_wp2
      go_ret
      exact ⟨rfl, Below.refl _ _⟩
    | true =>
      go_wp2
      go_ret
      exact ⟨rfl, Below.refl _ _⟩

set_option maxRecDepth 100000 in
theorem lifted (os : Os) (started : os.Started) (H : Type) (enc : TypeId × Value → H) :
    ReturnsInHanded {} Trym.checked os 5 .any (Rows.fnRecordsAddKeepsEveryRecordInPlaceSpec.pre6 enc Trym.prog Trym.f5 Rows.fnRecordsAddKeepsEveryRecordInPlaceRow.domain false) (Rows.fnRecordsAddKeepsEveryRecordInPlaceSpec.post enc Trym.prog Trym.f5 false true false false) := by
  refine returnsInHanded_of_change (C := Trym.checked) own started (by kernel_rfl) Trym.func5
    (ChangeSpec.witness6 (enc := enc) (C := Trym.checked) false ⟨#[], #[.slice none 0 0], []⟩ 8 (by kernel_rfl) (by kernel_rfl) (by kernel_rfl) (by kernel_rfl)) ?_
  intro W base args ds gs before hval0 hW hcnd _
  have hval : ∀ (j : Nat) t v, Trym.f5.params[j]? = some t → args[j]? = some v → Value.okWide Trym.prog W .any base t v := hval0
  have hW' := hW
  obtain ⟨p, q, hA0, hV, rfl, hfz, hnd⟩ := hW
  have hA : DataW.TrodAll enc Trym.prog W 0 (fun _ => true) true Trym.f5.params.toList args.toList ds p := hA0
  rw [Trym.params5] at hA hval
  obtain ⟨v0, d0, rfl, rfl, h0⟩ := trodAll_one hA
  obtain ⟨rfl, rfl⟩ := trodVars_none hV
  obtain ⟨a0, len0, cap0, rfl⟩ := okWide_slice Trym.underlying30 (hval 0 30 v0 rfl rfl)
  have k0 := h0
  have lt0 : ∀ x ∈ p, x.block < W.heap.size := by obtain ⟨m, hm⟩ := k0; exact DataW.trod_lt m _ _ _ hm
  obtain ⟨Q, hQ, hr, hl, hm⟩ : ∃ Q : List (List Value × Int × Int), (∀ q ∈ Q, RecOk q) ∧ RecsIn W a0 len0 cap0 (Q.map cellsOf) ∧ Q.length = len0 ∧ len0 ≤ 9223372036854775807 := by
    obtain ⟨fuel, hf⟩ := h0
    exact recs_of_trod (by simpa [Value.cells] using hf)
  clear hA0 hval0
  refine (walk a0 len0 cap0 Q W hQ hr hl hm).mono fun e W' ⟨he, bel⟩ => ?_
  subst he
  exact ⟨_, rfl, _, _, _, [], _, [], hW', trodAll_mk1 (shut_bool Trym.underlying4 _), trodAll_mk1 (Below.trod laidOut (by kernel_rfl) (of_decide_eq_true (by kernel_rfl)) k0 bel lt0), rfl, bel.frame _, fun h => by cases h⟩

theorem over : Rows.fnRecordsAddKeepsEveryRecordInPlaceRow.holds Trym.pinned (OpenSpec.ofChange Rows.fnRecordsAddKeepsEveryRecordInPlaceSpec) :=
  OpenClaim.holds_of_wide 5 Trym.f5 rfl rfl rfl rfl rfl rfl rfl ⟨rfl, rfl, rfl, rfl, rfl⟩ rfl rfl rfl rfl rfl (by kernel_rfl) Trym.func5 (by kernel_rfl)
    (of_decide_eq_true (by kernel_rfl)) (by unfold Func.isWrapper; first | (rw [if_pos (by decide +kernel)]; kernel_rfl) | (rw [if_neg (by decide +kernel)]; exact ⟨rfl, rfl⟩))
    (fun os started H enc _ => lifted os started H enc)

/-- THE STATEMENT -/
theorem proved : Rows.FnRecordsAddKeepsEveryRecordInPlaceSaid := over
#print axioms proved
end Go.Proofs.Qxb6601483aMods.fnRecordsAddKeepsEveryRecordInPlace
