import Derived.Test.Qxb6601483aModsRecClone
namespace Go.Proofs.Qxb6601483aMods
open Go.ChangeShapes Go.WideShapes Go.ChangeAt Go.RowKit

theorem results_cell3 {fn : Func} {p u v : Tmp} {ty : TypeId} (h : fn.results = #[.cell p ty, .tmp u, .tmp v]) (tmps : Array Value) (P : Program) (w : World) :
    (results fn tmps).run P w =
      ((asAddr (tmps.getD p undef)).run P w).andThen fun a w₁ => ((loadVar ty a).run P w₁).andThen fun x w₂ => .ok (.tuple #[x, tmps.getD u undef, tmps.getD v undef]) w₂ := by
  simp only [results, h]
  simp [Sem.run_bind, Result.andThen]

theorem there_new {w : World} {Z : Array Value} {t : TypeId} : (w.alloc (.cells Z t)).there w.heap.size 0 Z.size := fun j hj =>
  ⟨by rw [cell_of_row _ w.heap.size (0 + j) Z t (0, 0) (heap_alloc_new w _)]; simp [hj], frozen_of_row _ w.heap.size (0 + j) Z t (heap_alloc_new w _)⟩

set_option maxHeartbeats 1000000 in
set_option maxRecDepth 100000 in
/-- ZZIndexedFields. -/
theorem f19_any (g o : Nat) (ids : List Value) (c d : Int) (w : World) (hids : ids.length = 20) (h1 : ∀ v ∈ ids, v.oneCell' = true)
    (hr : w.rangeAt g o (ids ++ [.int .u32 c, .int .i64 d])) :
    Calls Trym.prog 19 #[.pointer (some ⟨g, o, none⟩)] w fun e w' => e = .returned (.tuple #[.agg ids.toArray, .int .u32 c, .int .i64 d]) ∧ Below w.heap.size w w' := by
  have r0 : w.rangeAt g o ids := fun j v hv => hr j v (by rw [List.getElem?_append_left (List.getElem?_eq_some_iff.1 hv).1]; exact hv)
  have r1 : w.cell? ⟨g, o + 20, none⟩ = some (.int .u32 c) := hr 20 _ (by rw [List.getElem?_append_right (by omega), hids]; rfl)
  have r2 : w.cell? ⟨g, o + 21, none⟩ = some (.int .i64 d) := hr 21 _ (by rw [List.getElem?_append_right (by omega), hids]; rfl)
  have hg : g < w.heap.size := World.block_lt_of_cell? w _ r1
  go_enter Trym.func19, Trym.ntmps19
  go_wp2_with fail
  have hz : Array.size (α := Value) #[.int .u8 0, .int .u8 0, .int .u8 0, .int .u8 0, .int .u8 0, .int .u8 0, .int .u8 0, .int .u8 0, .int .u8 0, .int .u8 0, .int .u8 0, .int .u8 0, .int .u8 0, .int .u8 0, .int .u8 0, .int .u8 0, .int .u8 0, .int .u8 0, .int .u8 0, .int .u8 0] = 20 := rfl
  have hS0 : (fun w' : World => w'.rangeAt g o ids ∧ w'.cell? ⟨g, o + 20, none⟩ = some (.int .u32 c) ∧ w'.cell? ⟨g, o + 21, none⟩ = some (.int .i64 d)) ((w.alloc (.cells #[.int .u8 0, .int .u8 0, .int .u8 0, .int .u8 0, .int .u8 0, .int .u8 0, .int .u8 0, .int .u8 0, .int .u8 0, .int .u8 0, .int .u8 0, .int .u8 0, .int .u8 0, .int .u8 0, .int .u8 0, .int .u8 0, .int .u8 0, .int .u8 0, .int .u8 0, .int .u8 0] 38)).drew) :=
    ⟨(World.rangeAt_drew _ _ _ _).2 (World.rangeAt_alloc r0 _), cell_ad r1 _, cell_ad r2 _⟩
  have hth : (w.alloc (.cells #[.int .u8 0, .int .u8 0, .int .u8 0, .int .u8 0, .int .u8 0, .int .u8 0, .int .u8 0, .int .u8 0, .int .u8 0, .int .u8 0, .int .u8 0, .int .u8 0, .int .u8 0, .int .u8 0, .int .u8 0, .int .u8 0, .int .u8 0, .int .u8 0, .int .u8 0, .int .u8 0] 38)).drew.there w.heap.size 0 ids.toArray.size := by
    rw [World.there_drew]
    have h := there_new (w := w) (Z := #[.int .u8 0, .int .u8 0, .int .u8 0, .int .u8 0, .int .u8 0, .int .u8 0, .int .u8 0, .int .u8 0, .int .u8 0, .int .u8 0, .int .u8 0, .int .u8 0, .int .u8 0, .int .u8 0, .int .u8 0, .int .u8 0, .int .u8 0, .int .u8 0, .int .u8 0, .int .u8 0]) (t := 38)
    rw [hz] at h
    simpa [hids] using h
  obtain ⟨W, hW⟩ : ∃ W, W = (w.alloc (.cells #[.int .u8 0, .int .u8 0, .int .u8 0, .int .u8 0, .int .u8 0, .int .u8 0, .int .u8 0, .int .u8 0, .int .u8 0, .int .u8 0, .int .u8 0, .int .u8 0, .int .u8 0, .int .u8 0, .int .u8 0, .int .u8 0, .int .u8 0, .int .u8 0, .int .u8 0, .int .u8 0] 38)).drew := ⟨_, rfl⟩
  rw [← hW] at hS0 hth
  have hbW : Below w.heap.size w W := by rw [hW]; exact ((Below.refl _ _).alloc (Nat.le_refl _) _).drew
  refine wp_region_held (S := fun w' : World => w'.rangeAt g o ids ∧ w'.cell? ⟨g, o + 20, none⟩ = some (.int .u32 c) ∧ w'.cell? ⟨g, o + 21, none⟩ = some (.int .i64 d)) (by kernel_rfl) ?_
  change wpAnyH _ _ _ _ _ _ _ _ (World.drew _)
  rw [← hW]
  have HW : Hid (W = (w.alloc (.cells #[.int .u8 0, .int .u8 0, .int .u8 0, .int .u8 0, .int .u8 0, .int .u8 0, .int .u8 0, .int .u8 0, .int .u8 0, .int .u8 0, .int .u8 0, .int .u8 0, .int .u8 0, .int .u8 0, .int .u8 0, .int .u8 0, .int .u8 0, .int .u8 0, .int .u8 0, .int .u8 0] 38)).drew) := hW
  clear hW hz r0 r1 r2 hr
  refine wpAnyH_take (i := 0) (v := ?_) rfl (by kernel_rfl) (by kernel_rfl) (by kernel_rfl) (fun _ _ _ h => h) (Or.inl ⟨by rfl, ?_⟩) hS0 ?_
  rotate_left
  · intro w' hw'; go_simp; try with_reducible rfl
  refine wpAnyH_take (i := 1) (v := ?_) rfl (by kernel_rfl) (by kernel_rfl) (by kernel_rfl) (fun _ _ _ h => h) (Or.inl ⟨by rfl, ?_⟩) hS0 ?_
  rotate_left
  · intro w' hw'; go_simp; try with_reducible rfl
  refine wpAnyH_take (i := 2) (v := ?_) rfl (by kernel_rfl) (by kernel_rfl) (by kernel_rfl) (fun _ _ _ h => h) (Or.inl ⟨by rfl, ?_⟩) hS0 ?_
  rotate_left
  · intro w' hw'; go_simp; try with_reducible rfl
  refine wpAnyH_take (i := 3) (v := .agg ids.toArray) rfl (by kernel_rfl) (by kernel_rfl) (by kernel_rfl) (fun _ _ _ h => h) (yieldsIf_load_mid rfl 50 (.tmp 7) rfl g o ?_ ids _ (fun _ h => h.1) Trym.underlying50 rfl (by rw [hids]; exact size50)) hS0 ?_
  · simp [Act.eval, Act.put]
  refine wpAnyH_take (i := 4) (v := ?_) rfl (by kernel_rfl) (by kernel_rfl) (by kernel_rfl) (fun _ _ _ h => h) (Or.inl ⟨by rfl, ?_⟩) hS0 ?_
  rotate_left
  · intro w' hw'; have q1 := hw'.2.1; have q2 := hw'.2.2; go_simp; try with_reducible rfl
  refine wpAnyH_take (i := 5) (v := ?_) rfl (by kernel_rfl) (by kernel_rfl) (by kernel_rfl) (fun _ _ _ h => h) (Or.inl ⟨by rfl, ?_⟩) hS0 ?_
  rotate_left
  · intro w' hw'; have q1 := hw'.2.1; have q2 := hw'.2.2; go_simp; try with_reducible rfl
  refine wpAnyH_take (i := 6) (v := ?_) rfl (by kernel_rfl) (by kernel_rfl) (by kernel_rfl) (fun _ _ _ h => h) (Or.inl ⟨by rfl, ?_⟩) hS0 ?_
  rotate_left
  · intro w' hw'; have q1 := hw'.2.1; have q2 := hw'.2.2; go_simp; try with_reducible rfl
  refine wpAnyH_take (i := 7) (v := ?_) rfl (by kernel_rfl) (by kernel_rfl) (by kernel_rfl) (fun _ _ _ h => h) (Or.inl ⟨by rfl, ?_⟩) hS0 ?_
  rotate_left
  · intro w' hw'; have q1 := hw'.2.1; have q2 := hw'.2.2; go_simp; try with_reducible rfl
  refine wpAnyH_take (i := 8) (v := ?_) rfl (by kernel_rfl) (by kernel_rfl) (by kernel_rfl) (fun _ _ _ h => h) (Or.inl ⟨by rfl, ?_⟩) hS0 ?_
  rotate_left
  · intro w' hw'; have q1 := hw'.2.1; have q2 := hw'.2.2; go_simp; try with_reducible rfl
  refine wpAnyH_take (i := 9) (v := ?_) rfl (by kernel_rfl) (by kernel_rfl) (by kernel_rfl) (fun _ _ _ h => h) (Or.inl ⟨by rfl, ?_⟩) hS0 ?_
  rotate_left
  · intro w' hw'; have q1 := hw'.2.1; have q2 := hw'.2.2; go_simp; try with_reducible rfl
  refine wpAnyH_take (i := 10) (v := ?_) rfl (by kernel_rfl) (by kernel_rfl) (by kernel_rfl) (fun _ _ _ h => h) (Or.inl ⟨by rfl, ?_⟩) hS0 ?_
  rotate_left
  · intro w' hw'; have q1 := hw'.2.1; have q2 := hw'.2.2; go_simp; try with_reducible rfl
  refine wpAnyH_take (i := 11) (v := ?_) rfl (by kernel_rfl) (by kernel_rfl) (by kernel_rfl) (fun _ _ _ h => h) (Or.inl ⟨by rfl, ?_⟩) hS0 ?_
  rotate_left
  · intro w' hw'; have q1 := hw'.2.1; have q2 := hw'.2.2; go_simp; try with_reducible rfl
  have hS1 : (fun w' : World => w'.rangeAt g o ids ∧ w'.cell? ⟨g, o + 20, none⟩ = some (.int .u32 c) ∧ w'.cell? ⟨g, o + 21, none⟩ = some (.int .i64 d)) (W.setCells w.heap.size 0 ids) :=
    ⟨World.rangeAt_setCells_apart hS0.1 _ _ _ (.inl (by omega)), by rw [World.cell?_setCells_out _ _ _ _ _ (fun e => by simp at e; omega)]; exact hS0.2.1, by rw [World.cell?_setCells_out _ _ _ _ _ (fun e => by simp at e; omega)]; exact hS0.2.2⟩
  have hsame : (W.setCells w.heap.size 0 ids).rangeAt w.heap.size 0 ids := World.rangeAt_setCells_same _ _ _ _ (by simpa using hth)
  have hbel : Below w.heap.size w (W.setCells w.heap.size 0 ids) := below_setCells (Nat.le_refl _) ids 0 W hbW
  have hi38 : (Trym.prog.info? 38).map (·.size) = some ids.toArray.size := by simpa [hids] using size38
  have hall := all_oneCell_toArray h1
  go_simp
  refine held_one (i := 12) rfl (by kernel_rfl) rfl ?_
  refine wp_store_mid 38 (.tmp 2) (.tmp 8) rfl w.heap.size 0 ids.toArray rfl rfl hth hi38 hall ?_
  refine ⟨by simpa using hS1, ?_⟩
  obtain ⟨W2, hW2⟩ : ∃ W2, W2 = W.setCells w.heap.size 0 ids := ⟨_, rfl⟩
  rw [← hW2] at hS1 hsame hbel ⊢
  clear hth hS0 hbW hW2
  refine held_one (i := 13) rfl (by kernel_rfl) rfl ?_
  go_simp
  refine held_one (i := 14) rfl (by kernel_rfl) rfl ?_
  go_simp
  refine wpAnyH_done (by kernel_rfl) ?_ _
  go_wp2
  refine bodyPost_ret (v := .tuple #[.agg ids.toArray, .int .u32 c, .int .i64 d]) ?_ rfl ⟨rfl, hbel⟩
  rw [results_cell3 (p := 2) (ty := 38) (u := 3) (v := 4) rfl]
  have hl := run_loadVar_mid (P := Trym.prog) W2 w.heap.size 0 38 ids _ hsame Trym.underlying38 rfl (by rw [hids]; exact size38)
  simp [asAddr, hl]
end Go.Proofs.Qxb6601483aMods
