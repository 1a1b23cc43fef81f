/-
  cloneTags (9), tagKeys (12), tagValues (13), tagBooleans (14): what they lay.
-/
import Derived.Test.Qxb6601750aModsJson
import Derived.Deep.MidRow
namespace Go.Proofs.Qxb6601750aMods
open Go.ChangeShapes Go.WideShapes Go.ChangeAt Go.RowKit

def setMany : List Value → Nat → List Value → List Value
  | xs, _, [] => xs
  | xs, o, v :: r => setMany (xs.set o v) (o + 1) r
theorem setMany_split : ∀ (vs A B : List Value), vs.length ≤ B.length → setMany (A ++ B) A.length vs = A ++ vs ++ B.drop vs.length
  | [], A, B, _ => by simp [setMany]
  | v :: r, A, b :: B, h => by
    have ih := setMany_split r (A ++ [v]) B (by simpa using h)
    simp only [setMany]
    rw [List.set_append_right _ _ (Nat.le_refl _), Nat.sub_self]
    simpa using ih
theorem owns_setCells {base : Nat} {e : TypeId} {size g n cap : Nat} : ∀ (vs : List Value) (o : Nat) (w : World) (xs : List Value), w.ownsRow base e size (.slice (some ⟨g, 0, none⟩) n cap) n xs → (w.setCells g o vs).ownsRow base e size (.slice (some ⟨g, 0, none⟩) n cap) n (setMany xs o vs)
  | [], _, _, _, h => h
  | v :: r, o, _, _, h => owns_setCells r (o + 1) _ _ (h.stored o v).1
theorem below_setCells {B : Nat} {a : World} {g : Nat} (hg : B ≤ g) : ∀ (vs : List Value) (o : Nat) (w : World), Below B a w → Below B a (w.setCells g o vs)
  | [], _, _, h => h
  | v :: r, o, _, h => below_setCells hg r (o + 1) _ (h.setCell hg v)
theorem flat_len3 : ∀ R : List (List Value), (∀ r ∈ R, r.length = 3) → R.flatten.length = R.length * 3
  | [], _ => rfl
  | a :: r, h => by
    have h1 := flat_len3 r (fun x hx => h x (by simp [hx]))
    have h2 := h a (by simp)
    simp only [List.flatten_cons, List.length_append, List.length_cons]
    omega

/-- The cells of a tag. -/
def tagCells (t : TagV) : List Value := [.string t.1, .string t.2.1, .bool t.2.2]
/-- What the copy of the tags holds behind k rounds. -/
def filledR (R : List (List Value)) (Z : List Value) (k : Nat) : List Value := (R.take k).flatten ++ Z.drop (k * 3)
theorem filledR_set (R : List (List Value)) (hR : ∀ r ∈ R, r.length = 3) (Z : List Value) (hZ : Z.length = R.length * 3) (k : Nat) (h : k < R.length) : setMany (filledR R Z k) (k * 3) R[k] = filledR R Z (k + 1) := by
  have hl : ((R.take k).flatten).length = k * 3 := by
    rw [flat_len3 _ (fun r hr => hR r (List.mem_of_mem_take hr))]; simp; omega
  have h22 : R[k].length = 3 := hR _ (List.getElem_mem h)
  have e := setMany_split R[k] (R.take k).flatten (Z.drop (k * 3)) (by rw [h22, List.length_drop, hZ]; omega)
  rw [hl] at e
  unfold filledR
  rw [e, List.take_succ_eq_append_getElem h, List.flatten_append, h22, List.drop_drop]
  simp [Nat.add_mul]
theorem filledR_zero (R : List (List Value)) (Z : List Value) : filledR R Z 0 = Z := by simp [filledR]
theorem filledR_full (R : List (List Value)) (Z : List Value) (hZ : Z.length = R.length * 3) : filledR R Z R.length = R.flatten := by
  unfold filledR
  rw [List.take_length, List.drop_of_length_le (by omega), List.append_nil]
theorem there_owned {w : World} {base e g n cap : Nat} {xs : List Value} (h : w.ownsRow base e 3 (.slice (some ⟨g, 0, none⟩) n cap) n xs) (k : Nat) (hk : k < n) : w.there g (k * 3) 3 := fun j hj =>
  ⟨by rw [h.cellAt (k * 3 + j) (by omega), List.getElem?_eq_getElem (by rw [h.1]; omega)]; rfl, h.frozenAt _⟩
theorem flat_get : ∀ (T : List TagV) (i : Nat) (h : i < T.length) (j : Nat), j < 3 → ((T.map tagCells).flatten)[i * 3 + j]? = (tagCells T[i])[j]?
  | [], i, h, _, _ => absurd h (by simp)
  | t :: r, 0, _, j, hj => by
    simp only [List.map_cons, List.flatten_cons, Nat.zero_mul, Nat.zero_add]
    rw [List.getElem?_append_left (by simpa [tagCells] using hj)]
    rfl
  | t :: r, i + 1, h, j, hj => by
    have ih := flat_get r i (by simpa using h) j hj
    simp only [List.map_cons, List.flatten_cons]
    rw [List.getElem?_append_right (by simp [tagCells]; omega), show (i + 1) * 3 + j - (tagCells t).length = i * 3 + j by simp [tagCells]; omega, ih]
    rfl
/-- A row of tags that the call has laid can be read. -/
theorem tagsIn_of_owns {w : World} {base e g cap : Nat} {T : List TagV} (h : w.ownsRow base e 3 (.slice (some ⟨g, 0, none⟩) T.length cap) T.length (T.map tagCells).flatten) (hm : ∀ t ∈ T, t.1.size ≤ maxLen ∧ t.2.1.size ≤ maxLen) : TagsIn w (some ⟨g, 0, none⟩) T.length cap T := by
  refine ⟨rfl, hm, (fun h => by cases h), ?_⟩
  rintro x hx i hi
  cases hx
  have h1 : ∀ j, j < 3 → w.cell? ⟨g, i * 3 + j, none⟩ = (tagCells T[i])[j]? := fun j hj => by
    rw [h.cellAt (i * 3 + j) (by omega), flat_get T i hi j hj]
  refine ⟨?_, ?_, ?_⟩
  · rw [add_plain, Nat.zero_add]; exact h1 0 (by omega)
  · rw [add_plain, Nat.zero_add]; exact h1 1 (by omega)
  · rw [add_plain, Nat.zero_add]; exact h1 2 (by omega)

/-- The zero of a tag. -/
def zeroTag : Value := .agg #[.string ByteArray.empty, .string ByteArray.empty, .bool false]
theorem Trym.info39 : (Trym.prog.info? 39).map (fun i => (i.zero, i.size, i.bytes)) = some (some zeroTag, 3, 40) := by kernel_rfl
theorem Trym.info44 : (Trym.prog.info? 44).map (fun i => (i.zero, i.size, i.bytes)) = some (some zeroTag, 3, 40) := by kernel_rfl
theorem Trym.info9' : (Trym.prog.info? 9).map (fun i => (i.zero, i.size, i.bytes)) = some (some (.string ByteArray.empty), 1, 16) := by kernel_rfl
theorem Trym.info4' : (Trym.prog.info? 4).map (fun i => (i.zero, i.size, i.bytes)) = some (some (.bool false), 1, 1) := by kernel_rfl
theorem size39 : (Trym.prog.info? 39).map (·.size) = some 3 := by kernel_rfl
theorem size44 : (Trym.prog.info? 44).map (·.size) = some 3 := by kernel_rfl

set_option maxHeartbeats 800000 in
set_option maxRecDepth 100000 in
/-- cloneTags at a slice that is not nil and not empty. -/
theorem f9_some (b off cap : Nat) (T : List TagV) (w : World) (hsm : T.length ≤ 1048576) (hb : b < w.heap.size)
    (hc : ∀ i (h : i < T.length), w.rangeAt b (off + i * 3) (tagCells T[i])) :
    Calls Trym.prog 9 #[.slice (some ⟨b, off, none⟩) T.length cap] w fun e w' => ∃ g, e = .returned (.slice (some ⟨g, 0, none⟩) T.length T.length) ∧
      w'.ownsRow w.heap.size 39 3 (.slice (some ⟨g, 0, none⟩) T.length T.length) T.length (T.map tagCells).flatten ∧ Below w.heap.size w w' := by
  have hn := fun wx => Lib.run_eql_slice_nil (P := Trym.prog) wx 23 39 (some ⟨b, off, none⟩) T.length cap 0 0 Trym.underlying23
  obtain ⟨i0, hi, hz0, hz1, hz2⟩ := info_parts Trym.info39
  have hTi : (T.length : Int) ≤ 1048576 := by omega
  go_enter Trym.func9, Trym.ntmps9
  go_wp2_with (at_make; refine wpList_make_full _ rfl _ _ 23 rfl w.heap.size 39 i0 zeroTag 3 Trym.underlying23 hi hz0 hz1 .i64 .i64 _ _ T.length rfl rfl (by simp) (by simp) (by rw [hz2]; omega) (by unfold maxLen; omega) (Nat.le_refl _) ?_; intro w1 hown hgrow)
  obtain ⟨Z, hZ⟩ : ∃ Z, Z = (madeCells zeroTag.cells (T.length * 3)).toList := ⟨_, rfl⟩
  rw [← hZ] at hown
  have hZl : Z.length = T.length * 3 := hown.1
  have hbel0 : Below w.heap.size w w1 := (Below.refl _ _).grown hgrow (Nat.le_refl _) (by simp)
  have HZ : Hid (Z.length = (T.map tagCells).length * 3) := by show _ = _; simpa using hZl
  clear hZl hZ hgrow
  go_loopw [4] (fun i wr => ∃ k : Nat, k ≤ T.length ∧ i = .int .i64 k ∧ wr.ownsRow w.heap.size 39 3 (.slice (some ⟨w.heap.size, 0, none⟩) T.length T.length) T.length (filledR (T.map tagCells) Z k) ∧ Below w.heap.size w wr)
    (fun i _ => T.length - (intOf i).toNat)
  case atStart => exact ⟨0, Nat.zero_le _, rfl, by rw [filledR_zero]; exact hown, hbel0⟩
  case round =>
    clear hown
    obtain ⟨k, hk, rfl, hown, hbel⟩ := hrel
    by_cases hlt : k < T.length
    · have hcx : wr.rangeAt b (off + k * 3) (tagCells T[k]) := fun j v hv => (hbel.cell (by exact hb)).trans (hc k hlt j v hv)
      have hth := there_owned hown k hlt
      have o1 := owns_setCells (tagCells T[k]) (k * 3) wr _ hown
      have e1 := filledR_set (T.map tagCells) (fun r hr => by obtain ⟨t, _, rfl⟩ := List.mem_map.1 hr; rfl) Z HZ.out k (by simpa using hlt)
      rw [List.getElem_map] at e1
      rw [e1] at o1
      have b1 := below_setCells (Nat.le_refl _) (tagCells T[k]) (k * 3) wr hbel
      have hrl : (tagCells T[k]).length = 3 := rfl
      have hro : ∀ v ∈ tagCells T[k], v.oneCell' = true := by simp [tagCells, Value.oneCell']
      obtain ⟨r, hr⟩ : ∃ r, r = tagCells T[k] := ⟨_, rfl⟩
      rw [← hr] at hcx o1 b1 hrl hro
      clear hr hown hc e1
      have hki : (k : Int) < (T.length : Int) := by omega
      go_wp2_with (first | (refine wpList_load_mid rfl 39 (.tmp 20) rfl b (off + k * 3) rfl r _ hcx Trym.underlying39 rfl (by rw [hrl]; exact size39) ?_) | (refine wpList_store_mid rfl 39 (.tmp 22) (.tmp 21) rfl w.heap.size (k * 3) r.toArray rfl rfl (by simpa [hrl] using hth) (by simpa [hrl] using size39) (all_oneCell_toArray hro) ?_))
      go_roundw
      case rel => exact ⟨k + 1, by omega, by go_num, o1, b1⟩
      case measure => simp [intOf]; omega
    · go_wp2
      go_ret
      have e : k = (T.map tagCells).length := by simp; omega
      rw [e, filledR_full (T.map tagCells) Z HZ.out] at hown
      exact ⟨_, rfl, hown, hbel⟩

set_option maxHeartbeats 800000 in
set_option maxRecDepth 100000 in
/-- cloneTags at an empty slice that is not nil. -/
theorem f9_empty (x : Addr) (cap : Nat) (w : World) :
    Calls Trym.prog 9 #[.slice (some x) 0 cap] w fun e w' => ∃ g, e = .returned (.slice (some ⟨g, 0, none⟩) 0 0) ∧
      w'.ownsRow w.heap.size 39 3 (.slice (some ⟨g, 0, none⟩) 0 0) 0 [] ∧ Below w.heap.size w w' := by
  have hn := fun wx => Lib.run_eql_slice_nil (P := Trym.prog) wx 23 39 (some x) 0 cap 0 0 Trym.underlying23
  obtain ⟨i0, hi, hz0, hz1, hz2⟩ := info_parts Trym.info39
  go_enter Trym.func9, Trym.ntmps9
  go_wp2_with (at_make; refine wpList_make_full _ rfl _ _ 23 rfl w.heap.size 39 i0 zeroTag 3 Trym.underlying23 hi hz0 hz1 .i64 .i64 _ _ 0 rfl rfl (by simp) (by simp) (by rw [hz2]; omega) (by unfold maxLen; omega) (Nat.le_refl _) ?_; intro w1 hown hgrow)
  have hown0 : w1.ownsRow w.heap.size 39 3 (.slice (some ⟨w.heap.size, 0, none⟩) 0 0) 0 [] := by
    simpa [madeCells] using hown
  have hbel0 : Below w.heap.size w w1 := (Below.refl _ _).grown hgrow (Nat.le_refl _) (by simp)
  clear hown hgrow
  refine wp_loop_rounds 1 ?_
  rw [rounds_succ]
  go_wp2
  go_ret
  exact ⟨_, rfl, hown0, hbel0⟩

theorem f9_nil (w : World) :
    Calls Trym.prog 9 #[.slice none 0 0] w fun e w' => e = .returned (.slice none 0 0) ∧ w = w' := by
  have hn := fun wx => Lib.run_eql_slice_nil (P := Trym.prog) wx 23 39 none 0 0 0 0 Trym.underlying23
  go_enter Trym.func9, Trym.ntmps9
  go_wp2
  go_ret
  exact ⟨rfl, rfl⟩

/-- A copy of the tags: it can be read, and its block is new. -/
def NewTags (w : World) (T : List TagV) (e : Ending) (w' : World) : Prop :=
  ∃ a cap, e = .returned (.slice a T.length cap) ∧ TagsIn w' a T.length cap T ∧ (∀ x, a = some x → w.heap.size ≤ x.block ∧ x.block < w'.heap.size) ∧ Below w.heap.size w w'
/-- cloneTags at whatever slice. -/
theorem f9_any (a : Option Addr) (len cap : Nat) (T : List TagV) (w : World) (h : TagsIn w a len cap T) (hsm : T.length ≤ 1048576) :
    Calls Trym.prog 9 #[.slice a len cap] w (NewTags w T) := by
  have hl := h.1
  subst hl
  cases a with
  | none =>
    obtain ⟨rfl, rfl⟩ := h.2.2.1 rfl
    refine (f9_nil w).mono ?_
    rintro e w' ⟨rfl, rfl⟩
    exact ⟨none, 0, rfl, h, (fun x hx => by cases hx), Below.refl _ _⟩
  | some x =>
    by_cases h0 : T.length = 0
    · obtain rfl := List.eq_nil_of_length_eq_zero h0
      refine (f9_empty x cap w).mono ?_
      rintro e w' ⟨g, rfl, ho, hb⟩
      exact ⟨_, _, rfl, ⟨rfl, by simp, (fun hx => by cases hx), fun _ _ i hi => absurd hi (by simp)⟩, fun y hy => by cases hy; exact ho.lt g rfl, hb⟩
    · obtain ⟨b, off, hx, hb, hc⟩ := tags_at h (by omega)
      cases hx
      refine (f9_some b off cap T w hsm hb (fun i hi => ?_)).mono ?_
      · obtain ⟨c1, c2, c3⟩ := hc i hi
        intro j v hv
        match j, hv with
        | 0, hv => simp only [tagCells, List.getElem?_cons_zero, Option.some.injEq] at hv; subst hv; exact c1
        | 1, hv => simp only [tagCells, List.getElem?_cons_zero, List.getElem?_cons_succ, Option.some.injEq] at hv; subst hv; exact c2
        | 2, hv => simp only [tagCells, List.getElem?_cons_zero, List.getElem?_cons_succ, Option.some.injEq] at hv; subst hv; exact c3
        | j + 3, hv => simp [tagCells] at hv
      · rintro e w' ⟨g, rfl, ho, hbl⟩
        exact ⟨_, _, rfl, tagsIn_of_owns ho h.2.1, fun y hy => by cases hy; exact ho.lt g rfl, hbl⟩
end Go.Proofs.Qxb6601750aMods
