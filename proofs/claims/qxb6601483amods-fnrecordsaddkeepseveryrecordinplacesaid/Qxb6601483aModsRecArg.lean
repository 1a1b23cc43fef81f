/-
  A slice of records that came in, as the walks want it: out of its reading as data.
-/
import Derived.Test.Qxb6601483aModsNever
import Derived.Deep.Slices
import Derived.Deep.Strs
namespace Go.Proofs.Qxb6601483aMods
open Go.ChangeShapes Go.WideShapes Go.ChangeAt Go.RowKit Go.Deep

theorem mapM_all {α β : Type} (f : α → Option β) : ∀ (l : List α) (xs : List β), l.mapM f = some xs → ∀ i ∈ l, ∃ y, f i = some y
  | [], _, _, i, hi => by cases hi
  | a :: l, xs, h, i, hi => by
    rw [List.mapM_cons] at h
    simp only [bind, Option.bind_eq_some_iff, pure, Option.some.injEq] at h
    obtain ⟨y, hy, ys, hys, _⟩ := h
    rcases List.mem_cons.1 hi with rfl | hi
    · exact ⟨y, hy⟩
    · exact mapM_all f l ys hys i hi

theorem add_add (x : Addr) (a b : Nat) : (x.add a).add b = x.add (a + b) := by
  unfold Addr.add
  by_cases ha : a = 0
  · subst ha; simp
  · by_cases hb : b = 0
    · subst hb; simp
    · simp [ha, hb, Nat.add_assoc]

theorem cells40 : Trym.prog.cellsOf 40 = 22 := by kernel_rfl
theorem cells38 : Trym.prog.cellsOf 38 = 20 := by kernel_rfl
theorem cells26 : Trym.prog.cellsOf 26 = 1 := by kernel_rfl
theorem cells2 : Trym.prog.cellsOf 2 = 1 := by kernel_rfl

section
variable {H : Type} {enc : TypeId × Value → H} {w : World} {base : Nat} {spare : Nat → Bool} {held : Bool}

theorem arr_of_trod {fuel : Nat} {cs : List Value} {x : DataW H × List MemPlace} (h : DataW.trod enc Trym.prog w base spare held fuel 38 cs = some x) : cs.length = 20 ∧ ∀ v ∈ cs, ∃ n, v = .int .u8 n := by
  cases fuel with
  | zero => simp [DataW.trod] at h
  | succ m =>
    unfold DataW.trod at h
    rw [Trym.underlying38] at h
    have h2 : (if cs.length = Trym.prog.cellsOf 38 then ((List.range 20).mapM fun i => DataW.trod enc Trym.prog w base spare held m 5 ((cs.drop (i * Trym.prog.cellsOf 5)).take (Trym.prog.cellsOf 5))).map fun xs => (DataW.agg (xs.map (·.1)), xs.flatMap (·.2)) else none) = some x := h
    rw [cells38, cellsOf5] at h2
    split at h2
    · rename_i hl
      refine ⟨hl, fun v hv => ?_⟩
      obtain ⟨xs, hxs, _⟩ := Option.map_eq_some_iff.1 h2
      obtain ⟨i, hi, rfl⟩ := List.getElem_of_mem hv
      obtain ⟨y, hy⟩ := mapM_all _ _ _ hxs i (List.mem_range.2 (by omega))
      rw [Nat.mul_one, List.drop_eq_getElem_cons hi] at hy
      obtain ⟨n, hn, _⟩ := DataW.trod_int Trym.underlying5 hy
      rw [List.take_succ_cons] at hn
      exact ⟨n, (List.cons.inj hn).1⟩
    · cases h2

theorem rec_of_trod {fuel : Nat} {cs : List Value} {x : DataW H × List MemPlace} (h : DataW.trod enc Trym.prog w base spare held fuel 40 cs = some x) : ∃ q, cs = cellsOf q ∧ RecOk q := by
  obtain ⟨y0, y1, y2, n, _, hl, h0, h1, h2⟩ := trod_struct3 Trym.underlying40 h
  rw [cells40] at hl
  have h0' : DataW.trod enc Trym.prog w base spare held n 38 ((cs.drop 0).take (Trym.prog.cellsOf 38)) = some y0 := h0
  have h1' : DataW.trod enc Trym.prog w base spare held n 26 ((cs.drop 20).take (Trym.prog.cellsOf 26)) = some y1 := h1
  have h2' : DataW.trod enc Trym.prog w base spare held n 2 ((cs.drop 21).take (Trym.prog.cellsOf 2)) = some y2 := h2
  rw [cells38] at h0'
  rw [cells26] at h1'
  rw [cells2] at h2'
  obtain ⟨hl0, hi0⟩ := arr_of_trod h0'
  obtain ⟨c, hc, _⟩ := DataW.trod_int Trym.underlying26 h1'
  obtain ⟨d, hd, _⟩ := DataW.trod_int Trym.underlying2 h2'
  refine ⟨(cs.take 20, c, d), ?_, by simpa using hl0, by simpa using hi0⟩
  have e1 : cs.drop 20 = [.int .u32 c, .int .i64 d] := by
    have h3 : cs.drop 20 = (cs.drop 20).take 1 ++ (cs.drop 20).drop 1 := (List.take_append_drop 1 _).symm
    rw [List.drop_drop] at h3
    have h4 : (cs.drop 21).take 1 = cs.drop 21 := List.take_of_length_le (by simp [hl])
    rw [h4] at hd
    rw [h3, hc, hd]; rfl
  show cs = cs.take 20 ++ _
  rw [← e1]
  exact (List.take_append_drop 20 cs).symm

/-- THE ARGUMENT: a slice of records, nil or not. -/
theorem recs_of_trod {fuel : Nat} {a : Option Addr} {len cap : Nat} {x : DataW H × List MemPlace} (h : DataW.trod enc Trym.prog w base spare held fuel 30 [.slice a len cap] = some x) :
    ∃ Q : List (List Value × Int × Int), (∀ q ∈ Q, RecOk q) ∧ RecsIn w a len cap (Q.map cellsOf) ∧ Q.length = len ∧ len ≤ 9223372036854775807 := by
  rcases open_slice Trym.underlying30 h with ⟨hcs, _⟩ | ⟨x0, l, c, m, n, D, Pl, hcs, _, hlc, hm, hmm, _, hx⟩
  · simp at hcs
    obtain ⟨rfl, rfl, rfl⟩ := hcs
    exact ⟨[], by simp, ⟨rfl, by simp, by simp, fun _ => ⟨rfl, rfl⟩, fun y hy => by cases hy⟩, rfl, by omega⟩
  · simp at hcs
    obtain ⟨rfl, rfl, rfl⟩ := hcs
    have hlm : len ≤ m := by rw [hmm]; split <;> omega
    have hx2 : ∀ i, i < len → ∃ q, RecOk q ∧ ∀ j v, (cellsOf q)[j]? = some v → w.cell? (x0.add (i * 22 + j)) = some v := by
      intro i hi
      obtain ⟨cs', h1, h2⟩ := hx i (by omega)
      obtain ⟨q, rfl, hq⟩ := rec_of_trod h2
      refine ⟨q, hq, fun j v hv => ?_⟩
      rw [cells40] at h1
      obtain ⟨_, hl, hc⟩ := World.cells?_some h1
      have hj : j < 22 := by have := (List.getElem?_eq_some_iff.1 hv).1; omega
      have h3 := hc j hj
      rw [hv] at h3
      have e : (x0.add (i * 22)).add j = x0.add (i * 22 + j) := add_add x0 _ _
      rw [← e]
      exact h3
    obtain ⟨F, hF⟩ := choose_lt (α := List Value × Int × Int) (p := fun i q => RecOk q ∧ ∀ j v, (cellsOf q)[j]? = some v → w.cell? (x0.add (i * 22 + j)) = some v) hx2
    refine ⟨(List.range len).map F, ?_, ⟨by simp, ?_, ?_, (fun hy => by cases hy), ?_⟩, by simp, by unfold maxLen at hm; omega⟩
    · intro q hq
      obtain ⟨i, hi, rfl⟩ := List.mem_map.1 hq
      exact (hF i (List.mem_range.1 hi)).1
    · intro r hr
      simp only [List.map_map, List.mem_map, List.mem_range] at hr
      obtain ⟨i, hi, rfl⟩ := hr
      exact (hF i hi).1.len
    · intro r hr
      simp only [List.map_map, List.mem_map, List.mem_range] at hr
      obtain ⟨i, hi, rfl⟩ := hr
      exact (hF i hi).1.all
    · intro y hy i hi j v hv
      cases hy
      simp at hi hv
      exact (hF i hi).2 j v hv
end
end Go.Proofs.Qxb6601483aMods
