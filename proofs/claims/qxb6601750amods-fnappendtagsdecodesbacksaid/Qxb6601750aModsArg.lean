/-
  A slice of tags, a slice of bytes that came in, as the walks want them: out of their reading as data.
-/
import Derived.Test.Qxb6601750aModsSize
import Derived.Deep.Slices
import Derived.Deep.Strs
namespace Go.Proofs.Qxb6601750aMods
open Go.ChangeShapes Go.WideShapes Go.ChangeAt Go.RowKit Go.Deep

theorem add_add (x : Addr) (a b : Nat) : (x.add a).add b = x.add (a + b) := by
  unfold Addr.add
  by_cases ha : a = 0
  · subst ha; simp
  · by_cases hb : b = 0
    · subst hb; simp
    · simp [ha, hb, Nat.add_assoc]

theorem cells39 : Trym.prog.cellsOf 39 = 3 := by kernel_rfl
theorem cells9 : Trym.prog.cellsOf 9 = 1 := by kernel_rfl
theorem cells4 : Trym.prog.cellsOf 4 = 1 := by kernel_rfl

section
variable {H : Type} {enc : TypeId × Value → H} {w : World} {base : Nat} {spare : Nat → Bool} {held : Bool}

theorem tag_of_trod {fuel : Nat} {cs : List Value} {x : DataW H × List MemPlace} (h : DataW.trod enc Trym.prog w base spare held fuel 39 cs = some x) :
    ∃ q : TagV, (q.1.size ≤ maxLen ∧ q.2.1.size ≤ maxLen) ∧ cs = [.string q.1, .string q.2.1, .bool q.2.2] := by
  obtain ⟨y0, y1, y2, n, _, hl, h0, h1, h2⟩ := trod_struct3 Trym.underlying39 h
  rw [cells39] at hl
  have h0' : DataW.trod enc Trym.prog w base spare held n 9 ((cs.drop 0).take (Trym.prog.cellsOf 9)) = some y0 := h0
  have h1' : DataW.trod enc Trym.prog w base spare held n 9 ((cs.drop 1).take (Trym.prog.cellsOf 9)) = some y1 := h1
  have h2' : DataW.trod enc Trym.prog w base spare held n 4 ((cs.drop 2).take (Trym.prog.cellsOf 4)) = some y2 := h2
  rw [cells9] at h0' h1'
  rw [cells4] at h2'
  obtain ⟨k, hk, _, hk2⟩ := DataW.trod_string Trym.underlying9 h0'
  obtain ⟨v, hv, _, hv2⟩ := DataW.trod_string Trym.underlying9 h1'
  obtain ⟨b, hb, _⟩ := DataW.trod_bool Trym.underlying4 h2'
  refine ⟨(k, v, b), ⟨hk2, hv2⟩, ?_⟩
  match cs, hl with
  | [c0, c1, c2], _ =>
    simp at hk hv hb
    simp [hk, hv, hb]

/-- THE ARGUMENT: a slice of tags, nil or not. -/
theorem tags_of_trod {fuel : Nat} {a : Option Addr} {len cap : Nat} {x : DataW H × List MemPlace} (h : DataW.trod enc Trym.prog w base spare held fuel 23 [.slice a len cap] = some x) :
    ∃ T : List TagV, TagsIn w a len cap T ∧ len ≤ 9223372036854775807 := by
  rcases open_slice Trym.underlying23 h with ⟨hcs, _⟩ | ⟨x0, l, c, m, n, D, Pl, hcs, _, hlc, hm, hmm, _, hx⟩
  · simp at hcs
    obtain ⟨rfl, rfl, rfl⟩ := hcs
    exact ⟨[], ⟨rfl, by simp, fun _ => ⟨rfl, rfl⟩, fun y hy => by cases hy⟩, by omega⟩
  · simp at hcs
    obtain ⟨rfl, rfl, rfl⟩ := hcs
    have hlm : len ≤ m := by rw [hmm]; split <;> omega
    have hx2 : ∀ i, i < len → ∃ q : TagV, (q.1.size ≤ maxLen ∧ q.2.1.size ≤ maxLen) ∧ w.cell? (x0.add (i * 3)) = some (.string q.1) ∧ w.cell? (x0.add (i * 3 + 1)) = some (.string q.2.1) ∧ w.cell? (x0.add (i * 3 + 2)) = some (.bool q.2.2) := by
      intro i hi
      obtain ⟨cs', h1, h2⟩ := hx i (by omega)
      obtain ⟨q, hq, rfl⟩ := tag_of_trod h2
      rw [cells39] at h1
      obtain ⟨_, hl, hc⟩ := World.cells?_some h1
      refine ⟨q, hq, ?_, ?_, ?_⟩
      · have h3 := hc 0 (by omega)
        rw [add_add] at h3
        exact h3
      · have h3 := hc 1 (by omega)
        rw [add_add] at h3
        exact h3
      · have h3 := hc 2 (by omega)
        rw [add_add] at h3
        exact h3
    obtain ⟨F, hF⟩ := choose_lt (α := TagV) (p := fun i q => (q.1.size ≤ maxLen ∧ q.2.1.size ≤ maxLen) ∧ w.cell? (x0.add (i * 3)) = some (.string q.1) ∧ w.cell? (x0.add (i * 3 + 1)) = some (.string q.2.1) ∧ w.cell? (x0.add (i * 3 + 2)) = some (.bool q.2.2)) hx2
    refine ⟨(List.range len).map F, ⟨by simp, ?_, (fun hy => by cases hy), ?_⟩, by unfold maxLen at hm; omega⟩
    · intro q hq
      obtain ⟨i, hi, rfl⟩ := List.mem_map.1 hq
      exact (hF i (List.mem_range.1 hi)).1
    · intro y hy i hi
      cases hy
      simp at hi
      simpa using (hF i hi).2

/-- THE ARGUMENT: a slice of bytes, nil or not. -/
theorem bytes_of_trod {fuel : Nat} {a : Option Addr} {len cap : Nat} {x : DataW H × List MemPlace} (h : DataW.trod enc Trym.prog w base spare held fuel 22 [.slice a len cap] = some x) :
    ∃ zs : List Int, RowIn w a len cap zs ∧ len ≤ 9223372036854775807 ∧ ∀ z ∈ zs, 0 ≤ z ∧ z < 256 := by
  rcases open_ints Trym.underlying22 Trym.underlying5 (by kernel_rfl) h with ⟨hcs, _⟩ | ⟨x, l, c, zs, hcs, _, hl, hm, hz, _, hcell, hwz⟩
  · simp at hcs
    obtain ⟨rfl, rfl, rfl⟩ := hcs
    exact ⟨[], ⟨rfl, fun _ => ⟨rfl, rfl⟩, fun y hy => by cases hy⟩, by omega, by simp⟩
  · simp at hcs
    obtain ⟨rfl, rfl, rfl⟩ := hcs
    have hz' : len ≤ zs.length := by
      have : zs.length = (if spare x.block then cap else len) := hz
      rw [this]; split <;> omega
    refine ⟨zs.take len, ⟨by simp; omega, (fun hx => by cases hx), ?_⟩, by unfold maxLen at hm; omega, ?_⟩
    · intro y hy j hj
      cases hy
      simp only [List.length_take] at hj
      rw [hcell j (by omega)]
      simp [show j < len by omega]
    · intro z hzm
      have := hwz z (List.mem_of_mem_take hzm)
      simp only [Lit.wf, IntKind.min, IntKind.max, IntKind.signed, IntKind.bits, Bool.and_eq_true] at this
      simp at this
      omega
end
end Go.Proofs.Qxb6601750aMods
