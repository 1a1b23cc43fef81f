import Derived.Test.Qxb6601483aModsRecCalls
namespace Go.Proofs.Qxb6601483aMods
open Go.ChangeShapes Go.WideShapes Go.ChangeAt Go.RowKit

def setMany : List Value → Nat → List Value → List Value
  | xs, _, [] => xs
  | xs, o, v :: r => setMany (xs.set o v) (o + 1) r
theorem setMany_split : ∀ (vs A B : List Value), vs.length ≤ B.length → setMany (A ++ B) A.length vs = A ++ vs ++ B.drop vs.length
  | [], A, B, _ => by simp [setMany]
  | v :: r, A, b :: B, h => by
    have ih := setMany_split r (A ++ [v]) B (by simpa using h)
    simp only [setMany]
    rw [List.set_append_right _ _ (Nat.le_refl _), Nat.sub_self]
    simpa using ih
theorem owns_setCells {base : Nat} {e : TypeId} {size g n cap : Nat} : ∀ (vs : List Value) (o : Nat) (w : World) (xs : List Value), w.ownsRow base e size (.slice (some ⟨g, 0, none⟩) n cap) n xs → (w.setCells g o vs).ownsRow base e size (.slice (some ⟨g, 0, none⟩) n cap) n (setMany xs o vs)
  | [], _, _, _, h => h
  | v :: r, o, _, _, h => owns_setCells r (o + 1) _ _ (h.stored o v).1
theorem below_setCells {B : Nat} {a : World} {g : Nat} (hg : B ≤ g) : ∀ (vs : List Value) (o : Nat) (w : World), Below B a w → Below B a (w.setCells g o vs)
  | [], _, _, h => h
  | v :: r, o, _, h => below_setCells hg r (o + 1) _ (h.setCell hg v)

/-- What the copy of the records holds behind k rounds. -/
def filledR (R : List (List Value)) (Z : List Value) (k : Nat) : List Value := (R.take k).flatten ++ Z.drop (k * 22)
theorem filledR_set (R : List (List Value)) (hR : ∀ r ∈ R, r.length = 22) (Z : List Value) (hZ : Z.length = R.length * 22) (k : Nat) (h : k < R.length) : setMany (filledR R Z k) (k * 22) R[k] = filledR R Z (k + 1) := by
  have hl : ((R.take k).flatten).length = k * 22 := by
    rw [flat_len _ (fun r hr => hR r (List.mem_of_mem_take hr))]; simp; omega
  have h22 : R[k].length = 22 := hR _ (List.getElem_mem h)
  have e := setMany_split R[k] (R.take k).flatten (Z.drop (k * 22)) (by rw [h22, List.length_drop, hZ]; omega)
  rw [hl] at e
  unfold filledR
  rw [e, List.take_succ_eq_append_getElem h, List.flatten_append, h22, List.drop_drop]
  simp [Nat.add_mul]

theorem size_filledR (R : List (List Value)) (Z : List Value) : filledR R Z 0 = Z := by simp [filledR]
theorem filledR_full (R : List (List Value)) (Z : List Value) (hZ : Z.length = R.length * 22) : filledR R Z R.length = R.flatten := by
  unfold filledR
  rw [List.take_length, List.drop_of_length_le (by omega), List.append_nil]

/-- The zero of a record. -/
def zero40 : Value := zero52
theorem Trym.info40 : (Trym.prog.info? 40).map (fun i => (i.zero, i.size, i.bytes)) = some (some zero40, 22, 32) := by kernel_rfl

theorem there_owned {w : World} {base e g n cap : Nat} {xs : List Value} (h : w.ownsRow base e 22 (.slice (some ⟨g, 0, none⟩) n cap) n xs) (k : Nat) (hk : k < n) : w.there g (k * 22) 22 := fun j hj =>
  ⟨by rw [h.cellAt (k * 22 + j) (by omega), List.getElem?_eq_getElem (by rw [h.1]; omega)]; rfl, h.frozenAt _⟩

set_option maxHeartbeats 800000 in
set_option maxRecDepth 100000 in
/-- cloneRecsB1 at a slice that is not nil and not empty. -/
theorem f13_some (b off cap : Nat) (R : List (List Value)) (hR : ∀ r ∈ R, r.length = 22) (hR1 : ∀ r ∈ R, ∀ v ∈ r, v.oneCell' = true) (w : World) (hsm : R.length ≤ 32768) (hb : b < w.heap.size)
    (hc : ∀ i (h : i < R.length), w.rangeAt b (off + i * 22) R[i]) :
    Calls Trym.prog 13 #[.slice (some ⟨b, off, none⟩) R.length cap] w fun e w' => ∃ g, e = .returned (.slice (some ⟨g, 0, none⟩) R.length R.length) ∧
      w'.ownsRow w.heap.size 40 22 (.slice (some ⟨g, 0, none⟩) R.length R.length) R.length R.flatten ∧ Below w.heap.size w w' := by
  have hn := fun wx => Lib.run_eql_slice_nil (P := Trym.prog) wx 30 40 (some ⟨b, off, none⟩) R.length cap 0 0 Trym.underlying30
  obtain ⟨i0, hi, hz0, hz1, hz2⟩ := info_parts Trym.info40
  go_enter Trym.func13, Trym.ntmps13
  go_wp2_with (at_make; refine wpList_make_full _ rfl _ _ 30 rfl w.heap.size 40 i0 zero40 22 Trym.underlying30 hi hz0 hz1 .i64 .i64 _ _ R.length rfl rfl (by simp) (by simp) (by rw [hz2]; omega) (by unfold maxLen; omega) (Nat.le_refl _) ?_; intro w1 hown hgrow)
  obtain ⟨Z, hZ⟩ : ∃ Z, Z = (madeCells zero40.cells (R.length * 22)).toList := ⟨_, rfl⟩
  rw [← hZ] at hown
  have hZl : Z.length = R.length * 22 := hown.1
  have hbel0 : Below w.heap.size w w1 := (Below.refl _ _).grown hgrow (Nat.le_refl _) (by simp)
  have HZ : Hid (Z.length = R.length * 22) := hZl
  clear hZl hZ hgrow
  go_loopw [4] (fun i wr => ∃ k : Nat, k ≤ R.length ∧ i = .int .i64 k ∧ wr.ownsRow w.heap.size 40 22 (.slice (some ⟨w.heap.size, 0, none⟩) R.length R.length) R.length (filledR R Z k) ∧ Below w.heap.size w wr)
    (fun i _ => R.length - (intOf i).toNat)
  case atStart => exact ⟨0, Nat.zero_le _, rfl, by rw [size_filledR]; exact hown, hbel0⟩
  case round =>
    clear hown
    obtain ⟨k, hk, rfl, hown, hbel⟩ := hrel
    by_cases hlt : k < R.length
    · have hcx : wr.rangeAt b (off + k * 22) R[k] := fun j v hv => (hbel.cell (by exact hb)).trans (hc k hlt j v hv)
      have hth := there_owned hown k hlt
      have o1 := owns_setCells R[k] (k * 22) wr _ hown
      rw [filledR_set R hR Z HZ.out k hlt] at o1
      have b1 := below_setCells (Nat.le_refl _) R[k] (k * 22) wr hbel
      have hrl : R[k].length = 22 := hR _ (List.getElem_mem hlt)
      have hro : ∀ v ∈ R[k], v.oneCell' = true := hR1 _ (List.getElem_mem hlt)
      obtain ⟨r, hr⟩ : ∃ r, r = R[k] := ⟨_, rfl⟩
      rw [← hr] at hcx o1 b1 hrl hro
      clear hr hown hR hR1 hc
      have hki : (k : Int) < (R.length : Int) := by omega
      go_wp2_with (first | (refine wpList_load_mid rfl 40 (.tmp 20) rfl b (off + k * 22) rfl r _ hcx Trym.underlying40 rfl (by rw [hrl]; exact size40) ?_) | (refine wpList_store_mid rfl 40 (.tmp 22) (.tmp 21) rfl w.heap.size (k * 22) r.toArray rfl rfl (by simpa [hrl] using hth) (by simpa [hrl] using size40) (all_oneCell_toArray hro) ?_))
      go_roundw
      case rel => exact ⟨k + 1, by omega, by go_num, o1, b1⟩
      case measure => simp [intOf]; omega
    · go_wp2
      go_ret
      have : k = R.length := by omega
      subst this
      rw [filledR_full R Z HZ.out] at hown
      exact ⟨_, rfl, hown, hbel⟩

set_option maxHeartbeats 800000 in
set_option maxRecDepth 100000 in
/-- cloneRecsB1 at an empty slice that is not nil. -/
theorem f13_empty (x : Addr) (cap : Nat) (w : World) :
    Calls Trym.prog 13 #[.slice (some x) 0 cap] w fun e w' => ∃ g, e = .returned (.slice (some ⟨g, 0, none⟩) 0 0) ∧
      w'.ownsRow w.heap.size 40 22 (.slice (some ⟨g, 0, none⟩) 0 0) 0 [] ∧ Below w.heap.size w w' := by
  have hn := fun wx => Lib.run_eql_slice_nil (P := Trym.prog) wx 30 40 (some x) 0 cap 0 0 Trym.underlying30
  obtain ⟨i0, hi, hz0, hz1, hz2⟩ := info_parts Trym.info40
  go_enter Trym.func13, Trym.ntmps13
  go_wp2_with (at_make; refine wpList_make_full _ rfl _ _ 30 rfl w.heap.size 40 i0 zero40 22 Trym.underlying30 hi hz0 hz1 .i64 .i64 _ _ 0 rfl rfl (by simp) (by simp) (by rw [hz2]; omega) (by unfold maxLen; omega) (Nat.le_refl _) ?_; intro w1 hown hgrow)
  have hown0 : w1.ownsRow w.heap.size 40 22 (.slice (some ⟨w.heap.size, 0, none⟩) 0 0) 0 [] := by
    simpa [madeCells] using hown
  have hbel0 : Below w.heap.size w w1 := (Below.refl _ _).grown hgrow (Nat.le_refl _) (by simp)
  clear hown hgrow
  refine wp_loop_rounds 1 ?_
  rw [rounds_succ]
  go_wp2
  go_ret
  exact ⟨_, rfl, hown0, hbel0⟩

theorem f13_nil (w : World) :
    Calls Trym.prog 13 #[.slice none 0 0] w fun e w' => e = .returned (.slice none 0 0) ∧ w = w' := by
  have hn := fun wx => Lib.run_eql_slice_nil (P := Trym.prog) wx 30 40 none 0 0 0 0 Trym.underlying30
  go_enter Trym.func13, Trym.ntmps13
  go_wp2
  go_ret
  exact ⟨rfl, rfl⟩

/-- What is known of a slice of records that is read: nil, or its records' cells lie at its address. -/
def RecsIn (w : World) (a : Option Addr) (len cap : Nat) (R : List (List Value)) : Prop :=
  len = R.length ∧ (∀ r ∈ R, r.length = 22) ∧ (∀ r ∈ R, ∀ v ∈ r, v.oneCell' = true) ∧ (a = none → R = [] ∧ cap = 0) ∧
    ∀ x, a = some x → ∀ i (_ : i < R.length) j v, (R[i])[j]? = some v → w.cell? (x.add (i * 22 + j)) = some v

/-- cloneRecsB1 at whatever slice. -/
theorem f13_any (a : Option Addr) (len cap : Nat) (R : List (List Value)) (w : World) (h : RecsIn w a len cap R) (hsm : R.length ≤ 32768) :
    Calls Trym.prog 13 #[.slice a len cap] w fun e w' => ∃ a' cap', e = .returned (.slice a' R.length cap') ∧
      w'.ownsRow w.heap.size 40 22 (.slice a' R.length cap') R.length R.flatten ∧ Below w.heap.size w w' := by
  obtain ⟨rfl, h1, h2, hn, hs⟩ := h
  cases a with
  | none =>
    obtain ⟨rfl, rfl⟩ := hn rfl
    refine (f13_nil w).mono ?_
    rintro e w' ⟨rfl, rfl⟩
    exact ⟨_, _, rfl, World.ownsRow_nil _ _ _ _, Below.refl _ _⟩
  | some x =>
    have hs := hs x rfl
    by_cases h0 : R.length = 0
    · obtain rfl := List.eq_nil_of_length_eq_zero h0
      refine (f13_empty x cap w).mono ?_
      rintro e w' ⟨g, rfl, ho, hb⟩
      exact ⟨_, _, rfl, ho, hb⟩
    · obtain ⟨b, off, spot⟩ := x
      have hr0 : R[0].length = 22 := h1 _ (List.getElem_mem (by omega))
      have hspot : spot = none := by
        have := World.cell?_spot (hs 0 (by omega) 0 _ (List.getElem?_eq_getElem (by omega)))
        simpa [Addr.add] using this
      subst hspot
      have hs' : ∀ i (h : i < R.length), w.rangeAt b (off + i * 22) R[i] := fun i hi j v hv => by
        have := hs i hi j v hv
        rw [add_plain] at this
        rw [Nat.add_assoc]; exact this
      have hb : b < w.heap.size := World.block_lt_of_cell? w _ (hs' 0 (by omega) 0 _ (List.getElem?_eq_getElem (by omega)))
      refine (f13_some b off cap R h1 h2 w hsm hb hs').mono ?_
      rintro e w' ⟨g, rfl, ho, hb⟩
      exact ⟨_, _, rfl, ho, hb⟩

/-- Record i of the copy. -/
theorem recs_range {w : World} {base g n cap : Nat} {R : List (List Value)} (hR : ∀ r ∈ R, r.length = 22) (h : w.ownsRow base 40 22 (.slice (some ⟨g, 0, none⟩) n cap) n R.flatten) (i : Nat) (hi : i < R.length) : w.rangeAt g (i * 22) R[i] := by
  intro j v hv
  have hl : R.flatten.length = n * 22 := h.1
  rw [flat_len R hR] at hl
  have hj : j < 22 := by have := (List.getElem?_eq_some_iff.1 hv).1; rw [hR _ (List.getElem_mem hi)] at this; exact this
  rw [h.cellAt (i * 22 + j) (by omega), flat_at R hR i j hj, List.getElem?_eq_getElem hi]
  exact hv
end Go.Proofs.Qxb6601483aMods
