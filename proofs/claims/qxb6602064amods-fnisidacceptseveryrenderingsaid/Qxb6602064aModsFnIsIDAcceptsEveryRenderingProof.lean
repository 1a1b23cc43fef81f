/-
  'Rows.FnIsIDAcceptsEveryRenderingSaid' proved. The frame is the guide's own way for a law over one array; the walk is Qxb6602064aModsLaw.
-/
import Derived.Test.Qxb6602064aModsRows
import Derived.Test.Qxb6602064aModsLaw
import Derived.WalkKit
import Derived.ProofKit
import Derived.ShutString
import Derived.ChangeOld
import Derived.Below
namespace Go.Proofs.Qxb6602064aMods.fnIsIDAcceptsEveryRendering
open Go.ChangeShapes Go.WideShapes Go.ChangeAt Go.RowKit
set_option linter.unusedVariables false

theorem own : ownKnob Trym.prog.godebug = none := by kernel_rfl
theorem laidOut : laidOutB Trym.prog = true := by kernel_rfl

theorem okWide_array {w : World} {r : Reach} {base : Nat} {v : Value} (h : Value.okWide Trym.prog w r base 23 v) : ∃ cs : List Value, v = .agg cs.toArray := by
  unfold Value.okWide at h
  rw [Trym.underlying23] at h
  obtain ⟨cs, rfl, _⟩ := h
  exact ⟨cs.toList, rfl⟩

set_option maxRecDepth 100000 in
theorem lifted (os : Os) (started : os.Started) (H : Type) (enc : TypeId × Value → H) :
    ReturnsInHanded {} Trym.checked os 4 .any (Rows.fnIsIDAcceptsEveryRenderingSpec.pre6 enc Trym.prog Trym.f4 Rows.fnIsIDAcceptsEveryRenderingRow.domain false) (Rows.fnIsIDAcceptsEveryRenderingSpec.post enc Trym.prog Trym.f4 false true false false) := by
  refine returnsInHanded_of_change (C := Trym.checked) own started (by kernel_rfl) Trym.func4
    (ChangeSpec.witness6 (enc := enc) (C := Trym.checked) false ⟨#[], #[.agg #[.int .u8 0, .int .u8 0, .int .u8 0, .int .u8 0, .int .u8 0, .int .u8 0, .int .u8 0, .int .u8 0, .int .u8 0, .int .u8 0, .int .u8 0, .int .u8 0, .int .u8 0, .int .u8 0, .int .u8 0, .int .u8 0]], []⟩ 8 (by kernel_rfl) (by kernel_rfl) (by kernel_rfl) (by kernel_rfl)) ?_
  intro W base args ds gs before hval0 hW hcnd _
  have hval : ∀ (j : Nat) t v, Trym.f4.params[j]? = some t → args[j]? = some v → Value.okWide Trym.prog W .any base t v := hval0
  have hW' := hW
  obtain ⟨p, q, hA0, hV, rfl, hfz, hnd⟩ := hW
  have hA : DataW.TrodAll enc Trym.prog W 0 (fun _ => true) true Trym.f4.params.toList args.toList ds p := hA0
  rw [Trym.params4] at hA hval
  obtain ⟨v0, d0, rfl, rfl, h0⟩ := trodAll_one hA
  obtain ⟨rfl, rfl⟩ := trodVars_none hV
  obtain ⟨cs, rfl⟩ := okWide_array (hval 0 23 v0 rfl rfl)
  have k0 := h0
  have lt0 : ∀ x ∈ p, x.block < W.heap.size := by obtain ⟨m, hm⟩ := k0; exact DataW.trod_lt m _ _ _ hm
  obtain ⟨hl, f, hf, hc⟩ : cs.length = 16 ∧ ∃ f : Nat → Int, (∀ i, 0 ≤ f i ∧ f i < 256) ∧ ∀ i, i < 16 → cs[i]? = some (.int .u8 (f i)) := by
    obtain ⟨fuel, hm⟩ := h0
    exact arr_of_trod (by simpa [Value.cells] using hm)
  clear hA0 hval0
  refine (f4_any W cs f hl hf hc).mono fun e W' ⟨he, bel⟩ => ?_
  subst he
  exact ⟨_, rfl, _, _, _, [], _, [], hW', trodAll_mk1 (shut_bool Trym.underlying4 _), trodAll_mk1 (Below.trod laidOut (by kernel_rfl) (of_decide_eq_true (by kernel_rfl)) k0 bel lt0), rfl, bel.frame _, fun h => by cases h⟩

theorem over : Rows.fnIsIDAcceptsEveryRenderingRow.holds Trym.pinned (OpenSpec.ofChange Rows.fnIsIDAcceptsEveryRenderingSpec) :=
  OpenClaim.holds_of_wide 4 Trym.f4 rfl rfl rfl rfl rfl rfl rfl ⟨rfl, rfl, rfl, rfl, rfl⟩ rfl rfl rfl rfl rfl (by kernel_rfl) Trym.func4 (by kernel_rfl)
    (of_decide_eq_true (by kernel_rfl)) (by unfold Func.isWrapper; first | (rw [if_pos (by decide +kernel)]; kernel_rfl) | (rw [if_neg (by decide +kernel)]; exact ⟨rfl, rfl⟩))
    (fun os started H enc _ => lifted os started H enc)

/-- THE STATEMENT -/
theorem proved : Rows.FnIsIDAcceptsEveryRenderingSaid := over
#print axioms proved
end Go.Proofs.Qxb6602064aMods.fnIsIDAcceptsEveryRendering
