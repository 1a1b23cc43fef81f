/-
  cloneBytes (8), by its contract.
-/
import Derived.Test.Qxb6601750aModsRows
import Derived.WalkKit
import Derived.WalkSpells
import Derived.WalkLawsBesides
import Derived.ProofKit
namespace Go.Proofs.Qxb6601750aMods
open Go.ChangeShapes Go.WideShapes Go.ChangeAt Go.RowKit

theorem Trym.info5 : (Trym.prog.info? 5).map (fun i => (i.zero, i.size, i.bytes)) = some (some (.int .u8 0), 1, 1) := by kernel_rfl

/-- The bytes of a row that is being filled: the first k have come over, the rest are zero. -/
def filled (zs : List Int) (k : Nat) : List Value := (zs.take k).map (Value.int .u8) ++ List.replicate (zs.length - k) (Value.int .u8 0)

theorem filled_zero (zs : List Int) : filled zs 0 = List.replicate zs.length (Value.int .u8 0) := by simp [filled]
theorem filled_full (zs : List Int) : filled zs zs.length = zs.map (Value.int .u8) := by simp [filled]
theorem filled_set (zs : List Int) (k : Nat) (h : k < zs.length) : (filled zs k).set k (.int .u8 (zs.getD k 0)) = filled zs (k + 1) := by
  apply List.ext_getElem?
  intro j
  unfold filled
  rw [List.getElem?_set]
  by_cases hj : k = j
  · subst hj
    rw [if_pos rfl, if_pos (by simp; omega), List.getElem?_append_left (by simp; omega)]
    simp [h]
  · rw [if_neg hj]
    by_cases h2 : j < k
    · rw [List.getElem?_append_left (by simp; omega), List.getElem?_append_left (by simp; omega)]
      simp [h2, show j < k + 1 by omega]
    · rw [List.getElem?_append_right (by simp; omega), List.getElem?_append_right (by simp; omega)]
      simp only [List.length_map, List.length_take, List.getElem?_replicate]
      by_cases h3 : j < zs.length
      · rw [if_pos (by omega), if_pos (by omega)]
      · rw [if_neg (by omega), if_neg (by omega)]

/-- A cell of an owned row of one-cell elements is there. -/
theorem own_some {w : World} {base e g n cap : Nat} {xs : List Value} (h : w.ownsRow base e 1 (.slice (some ⟨g, 0, none⟩) n cap) n xs) (k : Nat) (hk : k < n) : ∃ v, w.cell? ⟨g, k, none⟩ = some v := by
  rw [h.cellAt k (by omega)]
  exact ⟨_, List.getElem?_eq_getElem (by rw [h.1]; omega)⟩

/-- cloneBytes at nil. -/
theorem f8_nil (w : World) :
    Calls Trym.prog 8 #[.slice none 0 0] w fun e w' => e = .returned (.slice none 0 0) ∧ w = w' := by
  have hn := fun wx => Lib.run_eql_slice_nil (P := Trym.prog) wx 22 5 none 0 0 0 0 Trym.underlying22
  go_enter Trym.func8, Trym.ntmps8
  go_wp2
  go_ret
  exact ⟨rfl, rfl⟩

set_option maxHeartbeats 800000 in
/-- cloneBytes at a slice that is not nil. -/
theorem f8_some (b off cap : Nat) (zs : List Int) (w : World) (hsm : zs.length ≤ 1048576) (hb : b < w.heap.size)
    (hc : ∀ j, j < zs.length → w.cell? ⟨b, off + j, none⟩ = some (.int .u8 (zs.getD j 0))) :
    Calls Trym.prog 8 #[.slice (some ⟨b, off, none⟩) zs.length cap] w fun e w' => ∃ g, e = .returned (.slice (some ⟨g, 0, none⟩) zs.length zs.length) ∧
      w'.ownsRow w.heap.size 5 1 (.slice (some ⟨g, 0, none⟩) zs.length zs.length) zs.length (zs.map (Value.int .u8)) ∧ Below w.heap.size w w' := by
  have hn := fun wx => Lib.run_eql_slice_nil (P := Trym.prog) wx 22 5 (some ⟨b, off, none⟩) zs.length cap 0 0 Trym.underlying22
  obtain ⟨i0, hi, hz0, hz1, hz2⟩ := info_parts Trym.info5
  go_enter Trym.func8, Trym.ntmps8
  go_wp2_with (at_make; refine wpList_make_full _ rfl _ _ 22 rfl w.heap.size 5 i0 (.int .u8 0) 1 Trym.underlying22 hi hz0 hz1 .i64 .i64 _ _ zs.length rfl rfl (by simp) (by simp) (by rw [hz2]; omega) (by unfold maxLen; omega) (Nat.le_refl _) ?_; intro w1 hown hgrow)
  have hown0 : w1.ownsRow w.heap.size 5 1 (.slice (some ⟨w.heap.size, 0, none⟩) zs.length zs.length) zs.length (filled zs 0) := by
    rw [filled_zero, ← toList_madeCells_one]; simpa [Value.cells] using hown
  have hbel0 : Below w.heap.size w w1 := (Below.refl _ _).grown hgrow (Nat.le_refl _) (by simp)
  clear hown hgrow
  go_loopw [4] (fun i wr => ∃ k : Nat, k ≤ zs.length ∧ i = .int .i64 k ∧ wr.ownsRow w.heap.size 5 1 (.slice (some ⟨w.heap.size, 0, none⟩) zs.length zs.length) zs.length (filled zs k) ∧ Below w.heap.size w wr)
    (fun i _ => zs.length - (intOf i).toNat)
  case atStart => exact ⟨0, Nat.zero_le _, rfl, hown0, hbel0⟩
  case round =>
    obtain ⟨k, hk, rfl, hown, hbel⟩ := hrel
    by_cases hlt : k < zs.length
    · have hcx : wr.cell? ⟨b, off + k, none⟩ = some (.int .u8 (zs.getD k 0)) := (hbel.cell (by exact hb)).trans (hc k hlt)
      obtain ⟨v0, hcy⟩ := own_some hown k hlt
      have hfz := hown.frozenAt k
      obtain ⟨o1, o2⟩ := hown.stored k (.int .u8 (zs.getD k 0))
      rw [filled_set zs k hlt] at o1
      have hbel' : Below w.heap.size w (wr.setCell ⟨w.heap.size, k, none⟩ (.int .u8 (zs.getD k 0))) := hbel.setCell (Nat.le_refl _) _
      obtain ⟨z, hz⟩ : ∃ z, zs.getD k 0 = z := ⟨_, rfl⟩
      rw [hz] at hcx o1 hbel'
      clear o2 hown hz
      go_wp2
      go_roundw
      case rel => exact ⟨k + 1, by omega, by go_num, o1, hbel'⟩
      case measure => simp [intOf]; omega
    · go_wp2
      go_ret
      have : k = zs.length := by omega
      subst this
      rw [filled_full] at hown
      exact ⟨_, rfl, hown, hbel⟩

set_option maxHeartbeats 800000 in
/-- cloneBytes at an empty slice that is not nil: of its address nothing is known. -/
theorem f8_empty (x : Addr) (cap : Nat) (w : World) :
    Calls Trym.prog 8 #[.slice (some x) 0 cap] w fun e w' => ∃ g, e = .returned (.slice (some ⟨g, 0, none⟩) 0 0) ∧
      w'.ownsRow w.heap.size 5 1 (.slice (some ⟨g, 0, none⟩) 0 0) 0 [] ∧ Below w.heap.size w w' := by
  have hn := fun wx => Lib.run_eql_slice_nil (P := Trym.prog) wx 22 5 (some x) 0 cap 0 0 Trym.underlying22
  obtain ⟨i0, hi, hz0, hz1, hz2⟩ := info_parts Trym.info5
  go_enter Trym.func8, Trym.ntmps8
  go_wp2_with (at_make; refine wpList_make_full _ rfl _ _ 22 rfl w.heap.size 5 i0 (.int .u8 0) 1 Trym.underlying22 hi hz0 hz1 .i64 .i64 _ _ 0 rfl rfl (by simp) (by simp) (by rw [hz2]; omega) (by unfold maxLen; omega) (Nat.le_refl _) ?_; intro w1 hown hgrow)
  have hown0 : w1.ownsRow w.heap.size 5 1 (.slice (some ⟨w.heap.size, 0, none⟩) 0 0) 0 [] := by
    simpa [madeCells] using hown
  have hbel0 : Below w.heap.size w w1 := (Below.refl _ _).grown hgrow (Nat.le_refl _) (by simp)
  clear hown hgrow
  refine wp_loop_rounds 1 ?_
  rw [rounds_succ]
  go_wp2
  go_ret
  exact ⟨_, rfl, hown0, hbel0⟩

/-- What is known of a slice of bytes that is read: nil, or its bytes lie at its address. -/
def RowIn (w : World) (a : Option Addr) (len cap : Nat) (zs : List Int) : Prop :=
  len = zs.length ∧ (a = none → zs = [] ∧ cap = 0) ∧ ∀ x, a = some x → ∀ j, j < zs.length → w.cell? (x.add j) = some (.int .u8 (zs.getD j 0))

/-- cloneBytes at whatever slice. -/
theorem f8_any (a : Option Addr) (len cap : Nat) (zs : List Int) (w : World) (h : RowIn w a len cap zs) (hsm : zs.length ≤ 1048576) :
    Calls Trym.prog 8 #[.slice a len cap] w fun e w' => ∃ v, e = .returned v ∧
      w'.ownsRow w.heap.size 5 1 v zs.length (zs.map (Value.int .u8)) ∧ Below w.heap.size w w' := by
  obtain ⟨rfl, hn, hs⟩ := h
  cases a with
  | none =>
    obtain ⟨rfl, rfl⟩ := hn rfl
    refine (f8_nil w).mono ?_
    rintro e w' ⟨rfl, rfl⟩
    exact ⟨_, rfl, World.ownsRow_nil _ _ _ _, Below.refl _ _⟩
  | some x =>
    have hs := hs x rfl
    by_cases h0 : zs.length = 0
    · obtain rfl := List.eq_nil_of_length_eq_zero h0
      refine (f8_empty x cap w).mono ?_
      rintro e w' ⟨g, rfl, ho, hb⟩
      exact ⟨_, rfl, ho, hb⟩
    · obtain ⟨b, off, spot⟩ := x
      have hspot : spot = none := by simpa [Addr.add] using World.cell?_spot (hs 0 (by omega))
      subst hspot
      have hs' : ∀ j, j < zs.length → w.cell? ⟨b, off + j, none⟩ = some (.int .u8 (zs.getD j 0)) := fun j hj => by rw [← add_plain]; exact hs j hj
      refine (f8_some b off cap zs w hsm (World.block_lt_of_cell? w _ (hs' 0 (by omega))) hs').mono ?_
      rintro e w' ⟨g, rfl, ho, hb⟩
      exact ⟨_, rfl, ho, hb⟩

/-- A row that the call owns can be read. -/
theorem rowIn_of_owns {w : World} {base : Nat} {v : Value} {n : Nat} {zs : List Int} (h : w.ownsRow base 5 1 v n (zs.map (Value.int .u8))) :
    ∃ a cap, v = .slice a zs.length cap ∧ RowIn w a zs.length cap zs := by
  have hl : zs.length = n := by simpa using h.1
  subst hl
  rcases h.2 with ⟨rfl, h0⟩ | ⟨g, cap, cur, rfl, _, _, _⟩
  · obtain rfl := List.eq_nil_of_length_eq_zero h0
    exact ⟨none, 0, rfl, rfl, fun _ => ⟨rfl, rfl⟩, fun x hx => by cases hx⟩
  · refine ⟨some ⟨g, 0, none⟩, cap, rfl, rfl, (fun hx => by cases hx), ?_⟩
    rintro x hx j hj
    cases hx
    rw [add_plain, Nat.zero_add, h.cellAt j (by omega)]
    simp [hj]
end Go.Proofs.Qxb6601750aMods
