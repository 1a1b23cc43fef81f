/-
  ZZAppendTags (11).
-/
import Derived.Test.Qxb6601750aModsTags
namespace Go.Proofs.Qxb6601750aMods
open Go.ChangeShapes Go.WideShapes Go.ChangeAt Go.RowKit

/-- A row of one-cell values, laid from a block's head, that is read. -/
def ColIn (w : World) (g : Nat) (vs : List Value) : Prop := g < w.heap.size ∧ ∀ i (_ : i < vs.length), w.cell? ⟨g, i, none⟩ = some vs[i]
theorem colIn_of_owns {w : World} {base e g n cap : Nat} {vs : List Value} (h : w.ownsRow base e 1 (.slice (some ⟨g, 0, none⟩) n cap) n vs) : ColIn w g vs :=
  ⟨(h.lt g rfl).2, fun i hi => by rw [h.cellAt i (by rw [h.1] at hi; omega), List.getElem?_eq_getElem hi]⟩
theorem ColIn.below {w w' : World} {B g : Nat} {vs : List Value} (h : ColIn w g vs) (hb : Below B w w') (hg : g < B) : ColIn w' g vs :=
  ⟨Nat.lt_of_lt_of_le h.1 hb.size, fun i hi => (hb.cell (by exact hg)).trans (h.2 i hi)⟩

set_option maxRecDepth 100000 in
set_option maxHeartbeats 1000000 in
/-- ZZAppendTags. -/
theorem f11_any (w : World) (v : Value) (xs : List Int) (g1 g2 g3 : Nat) (T : List TagV) (H0 : w.ownsRow 0 5 1 v xs.length (xs.map (Value.int .u8)))
    (h1 : ColIn w g1 (T.map fun t => Value.string t.1)) (h2 : ColIn w g2 (T.map fun t => Value.string t.2.1)) (h3 : ColIn w g3 (T.map fun t => Value.bool t.2.2))
    (hm : ∀ t ∈ T, t.1.size ≤ maxLen ∧ t.2.1.size ≤ maxLen) (hb : xs.length + T.length + sumT T ≤ 1048576) :
    Calls Trym.prog 11 #[v, .slice (some ⟨g1, 0, none⟩) T.length T.length, .slice (some ⟨g2, 0, none⟩) T.length T.length, .slice (some ⟨g3, 0, none⟩) T.length T.length] w (App (Mine v w) w (xs ++ tagsJ T)) := by
  obtain ⟨i0, hi, hz0, hz1, hz2⟩ := info_parts Trym.info44
  have hTi : (T.length : Int) ≤ 1048576 := by omega
  have H1 : Hid (ColIn w g1 (T.map fun t => Value.string t.1)) := h1
  have H2 : Hid (ColIn w g2 (T.map fun t => Value.string t.2.1)) := h2
  have H3 : Hid (ColIn w g3 (T.map fun t => Value.bool t.2.2)) := h3
  have HM : Hid (∀ t ∈ T, t.1.size ≤ maxLen ∧ t.2.1.size ≤ maxLen) := hm
  have HB : Hid (xs.length + T.length + sumT T ≤ 1048576) := hb
  have HV : Hid (w.ownsRow 0 5 1 v xs.length (xs.map (Value.int .u8))) := H0
  have hT2 : Hid (T.length ≤ 1048576) := by show _ ≤ _; omega
  clear h1 h2 h3 hm hb H0
  go_enter Trym.func11, Trym.ntmps11
  go_wp2_with (at_make; refine wpList_make_full _ rfl _ _ 42 rfl w.heap.size 44 i0 zeroTag 3 Trym.underlying42 hi hz0 hz1 .i64 .i64 _ _ T.length rfl rfl (by simp) (by simp) (by rw [hz2]; omega) (by unfold maxLen; omega) (Nat.le_refl _) ?_; intro w1 hown hgrow)
  obtain ⟨Z, hZ⟩ : ∃ Z, Z = (madeCells zeroTag.cells (T.length * 3)).toList := ⟨_, rfl⟩
  rw [← hZ] at hown
  have hZl : Z.length = T.length * 3 := hown.1
  have hbel0 : Below w.heap.size w w1 := (Below.refl _ _).grown hgrow (Nat.le_refl _) (by simp)
  have HZ : Hid (Z.length = (T.map tagCells).length * 3) := by show _ = _; simpa using hZl
  clear hZl hZ hgrow
  go_loopw [10] (fun i wr => ∃ k : Nat, k ≤ T.length ∧ i = .int .i64 k ∧ wr.ownsRow w.heap.size 44 3 (.slice (some ⟨w.heap.size, 0, none⟩) T.length T.length) T.length (filledR (T.map tagCells) Z k) ∧ Below w.heap.size w wr)
    (fun i _ => T.length - (intOf i).toNat)
  case atStart => exact ⟨0, Nat.zero_le _, rfl, by rw [filledR_zero]; exact hown, hbel0⟩
  case round =>
    clear hown hbel0
    obtain ⟨k, hk, rfl, hown, hbel⟩ := hrel
    by_cases hlt : k < T.length
    · have hth : wr.drew.there w.heap.size (k * 3) 3 := there_owned hown.drew k hlt
      have o1 := owns_setCells (tagCells T[k]) (k * 3) wr.drew _ hown.drew
      have e1 := filledR_set (T.map tagCells) (fun r hr => by obtain ⟨t, _, rfl⟩ := List.mem_map.1 hr; rfl) Z HZ.out k (by simpa using hlt)
      rw [List.getElem_map] at e1
      rw [e1] at o1
      have b1 := below_setCells (Nat.le_refl _) (tagCells T[k]) (k * 3) wr.drew hbel.drew
      have c1 : wr.drew.cell? ⟨g1, k, none⟩ = some (.string T[k].1) := by
        have := (H1.out.below hbel H1.out.1).2 k (by simpa using hlt)
        rw [List.getElem_map] at this
        exact this
      have c2 : wr.drew.cell? ⟨g2, k, none⟩ = some (.string T[k].2.1) := by
        have := (H2.out.below hbel H2.out.1).2 k (by simpa using hlt)
        rw [List.getElem_map] at this
        exact this
      have c3 : wr.drew.cell? ⟨g3, k, none⟩ = some (.bool T[k].2.2) := by
        have := (H3.out.below hbel H3.out.1).2 k (by simpa using hlt)
        rw [List.getElem_map] at this
        exact this
      obtain ⟨q, hq⟩ : ∃ q, q = T[k] := ⟨_, rfl⟩
      rw [← hq] at o1 b1 c1 c2 c3
      obtain ⟨ks, vs, bb⟩ := q
      simp only at c1 c2 c3
      have O1 : Hid ((wr.drew.setCells w.heap.size (k * 3) (tagCells (ks, vs, bb))).ownsRow w.heap.size 44 3 (.slice (some ⟨w.heap.size, 0, none⟩) T.length T.length) T.length (filledR (T.map tagCells) Z (k + 1))) := o1
      have B1 : Hid (Below w.heap.size w (wr.drew.setCells w.heap.size (k * 3) (tagCells (ks, vs, bb)))) := b1
      have HTH : Hid (wr.drew.there w.heap.size (k * 3) 3) := hth
      have hki : (k : Int) < (T.length : Int) := by omega
      have hS0 : (fun w' : World => w'.cell? ⟨g1, k, none⟩ = some (.string ks) ∧ w'.cell? ⟨g2, k, none⟩ = some (.string vs) ∧ w'.cell? ⟨g3, k, none⟩ = some (.bool bb)) wr.drew := ⟨c1, c2, c3⟩
      have HS1 : Hid ((wr.drew.setCells w.heap.size (k * 3) (tagCells (ks, vs, bb))).cell? ⟨g1, k, none⟩ = some (.string ks) ∧ (wr.drew.setCells w.heap.size (k * 3) (tagCells (ks, vs, bb))).cell? ⟨g2, k, none⟩ = some (.string vs) ∧ (wr.drew.setCells w.heap.size (k * 3) (tagCells (ks, vs, bb))).cell? ⟨g3, k, none⟩ = some (.bool bb)) :=
        ⟨(b1.cell (by exact H1.out.1)).trans ((hbel.cell (by exact H1.out.1)).symm.trans c1), (b1.cell (by exact H2.out.1)).trans ((hbel.cell (by exact H2.out.1)).symm.trans c2), (b1.cell (by exact H3.out.1)).trans ((hbel.cell (by exact H3.out.1)).symm.trans c3)⟩
      clear o1 b1 hth e1 hown hq c1 c2 c3 hbel
      go_wp2_with fail
      refine wp_region_held (S := fun w' : World => w'.cell? ⟨g1, k, none⟩ = some (.string ks) ∧ w'.cell? ⟨g2, k, none⟩ = some (.string vs) ∧ w'.cell? ⟨g3, k, none⟩ = some (.bool bb)) (by kernel_rfl) ?_
      change wpAnyH _ _ _ _ _ _ _ _ (World.drew _)
      refine wpAnyH_take (i := 0) (v := ?_) rfl (by kernel_rfl) (by kernel_rfl) (by kernel_rfl) (fun _ _ _ h => h) (Or.inl ⟨by rfl, ?_⟩) hS0 ?_
      rotate_left
      · intro w' hw'; obtain ⟨e1, e2, e3⟩ := hw'; go_simp; try with_reducible rfl
      refine wpAnyH_take (i := 1) (v := ?_) rfl (by kernel_rfl) (by kernel_rfl) (by kernel_rfl) (fun _ _ _ h => h) (Or.inl ⟨by rfl, ?_⟩) hS0 ?_
      rotate_left
      · intro w' hw'; obtain ⟨e1, e2, e3⟩ := hw'; go_simp; try with_reducible rfl
      refine wpAnyH_take (i := 2) (v := ?_) rfl (by kernel_rfl) (by kernel_rfl) (by kernel_rfl) (fun _ _ _ h => h) (Or.inl ⟨by rfl, ?_⟩) hS0 ?_
      rotate_left
      · intro w' hw'; obtain ⟨e1, e2, e3⟩ := hw'; go_simp; try with_reducible rfl
      refine wpAnyH_take (i := 3) (v := ?_) rfl (by kernel_rfl) (by kernel_rfl) (by kernel_rfl) (fun _ _ _ h => h) (Or.inl ⟨by rfl, ?_⟩) hS0 ?_
      rotate_left
      · intro w' hw'; obtain ⟨e1, e2, e3⟩ := hw'; go_simp; try with_reducible rfl
      refine wpAnyH_take (i := 4) (v := ?_) rfl (by kernel_rfl) (by kernel_rfl) (by kernel_rfl) (fun _ _ _ h => h) (Or.inl ⟨by rfl, ?_⟩) hS0 ?_
      rotate_left
      · intro w' hw'; obtain ⟨e1, e2, e3⟩ := hw'; go_simp; try with_reducible rfl
      refine wpAnyH_take (i := 5) (v := ?_) rfl (by kernel_rfl) (by kernel_rfl) (by kernel_rfl) (fun _ _ _ h => h) (Or.inl ⟨by rfl, ?_⟩) hS0 ?_
      rotate_left
      · intro w' hw'; obtain ⟨e1, e2, e3⟩ := hw'; go_simp; try with_reducible rfl
      go_simp
      refine wpAnyH_take (i := 6) (v := ?_) rfl (by kernel_rfl) (by kernel_rfl) (by kernel_rfl) (fun _ _ _ h => h) (Or.inl ⟨by rfl, ?_⟩) hS0 ?_
      rotate_left
      · intro w' hw'; obtain ⟨e1, e2, e3⟩ := hw'; go_simp; try with_reducible rfl
      refine wpAnyH_take (i := 7) (v := ?_) rfl (by kernel_rfl) (by kernel_rfl) (by kernel_rfl) (fun _ _ _ h => h) (Or.inl ⟨by rfl, ?_⟩) hS0 ?_
      rotate_left
      · intro w' hw'; obtain ⟨e1, e2, e3⟩ := hw'; go_simp; try with_reducible rfl
      refine wpAnyH_take (i := 8) (v := ?_) rfl (by kernel_rfl) (by kernel_rfl) (by kernel_rfl) (fun _ _ _ h => h) (Or.inl ⟨by rfl, ?_⟩) hS0 ?_
      rotate_left
      · intro w' hw'; obtain ⟨e1, e2, e3⟩ := hw'; go_simp; try with_reducible rfl
      refine wpAnyH_take (i := 9) (v := ?_) rfl (by kernel_rfl) (by kernel_rfl) (by kernel_rfl) (fun _ _ _ h => h) (Or.inl ⟨by rfl, ?_⟩) hS0 ?_
      rotate_left
      · intro w' hw'; obtain ⟨e1, e2, e3⟩ := hw'; go_simp; try with_reducible rfl
      go_simp
      refine wpAnyH_take (i := 10) (v := ?_) rfl (by kernel_rfl) (by kernel_rfl) (by kernel_rfl) (fun _ _ _ h => h) (Or.inl ⟨by rfl, ?_⟩) hS0 ?_
      rotate_left
      · intro w' hw'; obtain ⟨e1, e2, e3⟩ := hw'; go_simp; try with_reducible rfl
      refine wpAnyH_take (i := 11) (v := ?_) rfl (by kernel_rfl) (by kernel_rfl) (by kernel_rfl) (fun _ _ _ h => h) (Or.inl ⟨by rfl, ?_⟩) hS0 ?_
      rotate_left
      · intro w' hw'; obtain ⟨e1, e2, e3⟩ := hw'; go_simp; try with_reducible rfl
      refine wpAnyH_take (i := 12) (v := ?_) rfl (by kernel_rfl) (by kernel_rfl) (by kernel_rfl) (fun _ _ _ h => h) (Or.inl ⟨by rfl, ?_⟩) hS0 ?_
      rotate_left
      · intro w' hw'; obtain ⟨e1, e2, e3⟩ := hw'; go_simp; try with_reducible rfl
      refine wpAnyH_take (i := 13) (v := ?_) rfl (by kernel_rfl) (by kernel_rfl) (by kernel_rfl) (fun _ _ _ h => h) (Or.inl ⟨by rfl, ?_⟩) hS0 ?_
      rotate_left
      · intro w' hw'; obtain ⟨e1, e2, e3⟩ := hw'; go_simp; try with_reducible rfl
      go_simp
      refine wpAnyH_take (i := 14) (v := ?_) rfl (by kernel_rfl) (by kernel_rfl) (by kernel_rfl) (fun _ _ _ h => h) (Or.inl ⟨by rfl, ?_⟩) hS0 ?_
      rotate_left
      · intro w' hw'; obtain ⟨e1, e2, e3⟩ := hw'; go_simp; try with_reducible rfl
      refine wpAnyH_take (i := 15) (v := ?_) rfl (by kernel_rfl) (by kernel_rfl) (by kernel_rfl) (fun _ _ _ h => h) (Or.inl ⟨by rfl, ?_⟩) hS0 ?_
      rotate_left
      · intro w' hw'; obtain ⟨e1, e2, e3⟩ := hw'; go_simp; try with_reducible rfl
      go_simp
      refine held_one (i := 16) rfl (by kernel_rfl) rfl ?_
      refine wp_store_mid 44 (.tmp 35) (.tmp 34) rfl w.heap.size (k * 3) (tagCells (ks, vs, bb)).toArray rfl rfl HTH.out size44 (all_oneCell_toArray (by simp [tagCells, Value.oneCell'])) ?_
      refine ⟨HS1.out, ?_⟩
      go_simp
      refine wpAnyH_done (by kernel_rfl) ?_ _
      go_wp2_with fail
      go_roundw
      case rel => exact ⟨k + 1, by omega, by go_num, O1.out, B1.out⟩
      case measure => simp [intOf]; omega
    · have e : k = (T.map tagCells).length := by simp; omega
      rw [e, filledR_full (T.map tagCells) Z HZ.out] at hown
      have hTI := tagsIn_of_owns hown HM.out
      have hlv : ∀ g, v.ownBlock = some g → g < w.heap.size := fun g hg => (HV.out.lt g hg).2
      have hgr : w.heap.size < wr.heap.size := (hown.lt _ rfl).2
      have HO : Own (Mine v wr) wr wr v xs := ⟨owns_grew HV.out (Grew.of_below hbel) (fun g hg h => by have := hlv g hg; omega), Grew.refl _ _, fun g hg => .inl hg, fun g hg => .inr hg⟩
      have HK : Hid (Calls Trym.prog 20 #[v, .slice (some ⟨w.heap.size, 0, none⟩) T.length T.length] wr (App (Mine v wr) wr (xs ++ tagsJ T))) :=
        f20_any (Mine v wr) wr wr v xs _ _ _ T HO hTI (fun x hx h => by
          cases hx
          rcases h with h | h
          · have h2 : w.heap.size < w.heap.size := hlv _ h
            omega
          · have h2 : wr.heap.size ≤ w.heap.size := h
            omega) HB.out
      have HG : Hid (Grew w wr (Mine v w)) := (Grew.of_below hbel).mono fun g _ h => .inr h
      have HF : Hid (∀ g, Mine v wr g → Mine v w g) := fun g h => h.elim .inl fun h => .inr (by have := hbel.size; omega)
      clear hown hTI HO hlv hbel e
      go_wp2_with fail
      refine Calls.mono HK.out ?_
      rintro e w' ⟨v3, rfl, H4⟩
      go_wp2_with fail
      go_ret
      exact ⟨_, rfl, own_back HG.out HF.out (fun g hg => .inr hg) H4⟩
end Go.Proofs.Qxb6601750aMods
