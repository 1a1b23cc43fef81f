/-
  The functions on the road of FnRecordsAddKeepsEveryRecordInPlace that its neighbour does not come to: zzBytes (12), ZZRecordsN (15), ZZRecordsBlocks (16), ZZRecordsBlockLen (17), ZZRecordsBlockGet (18); and what the loops keep ('LK').
-/
import Derived.Test.Qxb6601483aModsNever
namespace Go.Proofs.Qxb6601483aMods
open Go.ChangeShapes Go.WideShapes Go.ChangeAt Go.RowKit

set_option maxRecDepth 100000 in
/-- zzBytes_FnRecordsAddKeepsEveryRecordInPlace: whatever it answers, it writes nothing. -/
theorem f12_any (a : Option Addr) (n c : Nat) (w : World) (hn : n ≤ 9223372036854775807) :
    Calls Trym.prog 12 #[.slice a n c] w fun e w' => AnsBool e ∧ w = w' := by
  by_cases h1 : (1048576 : Int) < (n : Int)
  · go_enter Trym.func12, Trym.ntmps12
    go_wp2
    go_ret
    exact ⟨⟨false, rfl⟩, rfl⟩
  · have hd : decide ((1048576 : Int) < (n : Int)) = false := by simp; omega
    go_enter Trym.func12, Trym.ntmps12
    go_wp2
    go_loop [3, 4] (fun z i => ∃ k : Nat, k ≤ n ∧ i = .int .i64 k ∧ ∃ q : Int, z = .int .i64 q ∧ 0 ≤ q ∧ q ≤ 1048576) (fun _ i => n - (intOf i).toNat)
    case atStart => exact ⟨0, Nat.zero_le _, rfl, n, rfl, by omega, by omega⟩
    case round =>
      obtain ⟨k, hk, rfl, q, rfl, hq0, hq⟩ := hrel
      by_cases hlt : k < n
      · by_cases hq2 : q + 20 ≤ 1048576
        · iterate 26 go_step
          refine wp_cond_false rfl ?_
          go_wp2
          go_round
          case rel => exact ⟨k + 1, by omega, by go_num, q + 20, by go_num, by omega, by omega⟩
          case measure => simp [intOf]; omega
        · iterate 26 go_step
          refine wp_cond_false rfl ?_
          go_wp2
          go_ret
          exact ⟨⟨false, rfl⟩, rfl⟩
      · go_wp2
        go_ret
        exact ⟨⟨true, rfl⟩, rfl⟩

/-- ZZRecordsN. -/
theorem f15_any (br : Nat) (T : Nat → Prop) (R : List (List Value)) (nb : Nat) (bv : Value) (SV : Nat → Value) (w : World) (hst : StN T w br R nb bv SV) :
    Calls Trym.prog 15 #[.pointer (some ⟨br, 0, none⟩)] w fun e w' => e = .returned (.int .i64 R.length) ∧ w = w' := by
  obtain ⟨hc1, _⟩ := hst.cell1
  clear hst
  go_enter Trym.func15, Trym.ntmps15
  go_wp2
  go_ret
  exact ⟨rfl, rfl⟩

/-- ZZRecordsBlocks. -/
theorem f16_any (br : Nat) (T : Nat → Prop) (R : List (List Value)) (nb : Nat) (bv : Value) (SV : Nat → Value) (w : World) (hst : StN T w br R nb bv SV) :
    Calls Trym.prog 16 #[.pointer (some ⟨br, 0, none⟩)] w fun e w' => e = .returned (.int .i64 nb) ∧ w = w' := by
  obtain ⟨a, capb, rfl⟩ : ∃ a capb, bv = .slice a nb capb := by
    rcases hst.bo.2 with ⟨rfl, h0⟩ | ⟨g, cap, cur, rfl, _⟩
    · exact ⟨none, 0, by rw [h0]⟩
    · exact ⟨_, _, rfl⟩
  obtain ⟨hc0, _⟩ := hst.cell0
  clear hst
  go_enter Trym.func16, Trym.ntmps16
  go_wp2
  go_ret
  exact ⟨rfl, rfl⟩

/-- ZZRecordsBlockLen. -/
theorem f17_any (br b : Nat) (T : Nat → Prop) (R : List (List Value)) (nb : Nat) (bv : Value) (SV : Nat → Value) (w : World) (hst : StN T w br R nb bv SV) (hnb : nb = nbOf R.length) (hb : b < nb) (hm : R.length ≤ 32768) :
    Calls Trym.prog 17 #[.pointer (some ⟨br, 0, none⟩), .int .i64 b] w fun e w' => e = .returned (.int .i64 (lenAt R.length b)) ∧ w = w' := by
  obtain ⟨gb, capb, rfl, hgb, hTgb, hcells⟩ := hst.shape (by omega)
  obtain ⟨hc0, hf0⟩ := hst.cell0
  obtain ⟨g, cp, hsv⟩ := owns_shape (hst.rows b hb) (by unfold lenAt nbOf at *; omega)
  have hc := (hcells _ hb).1
  rw [hsv] at hc
  have hbi : (b : Int) < (nb : Int) := by omega
  have hn10 : nb ≤ 10 := by rw [hnb]; unfold nbOf; omega
  obtain ⟨ln, hln⟩ : ∃ ln, lenAt R.length b = ln := ⟨_, rfl⟩
  have hl4 : ln ≤ 4096 := by rw [← hln]; unfold lenAt; omega
  rw [hln] at hc ⊢
  clear hsv hcells hnb hst hln
  go_enter Trym.func17, Trym.ntmps17
  go_wp2
  go_ret
  exact ⟨rfl, rfl⟩

set_option maxHeartbeats 1000000 in
set_option maxRecDepth 100000 in
/-- ZZRecordsBlockGet. -/
theorem f18_any (br i : Nat) (T : Nat → Prop) (R : List (List Value)) (nb : Nat) (bv : Value) (SV : Nat → Value) (ids : List Value) (c d : Int) (w : World) (hst : StN T w br R nb bv SV) (hnb : nb = nbOf R.length) (hi : i < R.length) (hm : R.length ≤ 32768)
    (hR : ∀ r ∈ R, r.length = 22) (hRi : R[i] = ids ++ [.int .u32 c, .int .i64 d]) (hids : ids.length = 20) (h1 : ∀ v ∈ ids, v.oneCell' = true) :
    Calls Trym.prog 18 #[.pointer (some ⟨br, 0, none⟩), .int .i64 ((i : Int) / 4096), .int .i64 ((i : Int) % 4096)] w fun e w' => e = .returned (.tuple #[.agg ids.toArray, .int .u32 c, .int .i64 d]) ∧ Below w.heap.size w w' := by
  have hb : i / 4096 < nb := by rw [hnb]; unfold nbOf; omega
  obtain ⟨gb, capb, rfl, hgb, hTgb, hcells⟩ := hst.shape (by omega)
  obtain ⟨hc0, hf0⟩ := hst.cell0
  obtain ⟨g, cp, hsv⟩ := owns_shape (hst.rows (i / 4096) hb) (by unfold lenAt; omega)
  have hc := (hcells _ hb).1
  have hrg := rec_range hR hst hnb hi (g := g) (by rw [hsv]; rfl)
  rw [hRi] at hrg
  rw [hsv] at hc
  obtain ⟨ln, hln⟩ : ∃ ln, lenAt R.length (i / 4096) = ln := ⟨_, rfl⟩
  have hli : ((i : Int) % 4096) < (ln : Int) := by rw [← hln]; unfold lenAt; omega
  rw [hln] at hc
  have hbi : ((i : Int) / 4096) < (nb : Int) := by omega
  have hbr := hst.br_lt
  have hg : g < w.heap.size := World.block_lt_of_cell? w _ (hrg 20 _ (by rw [List.getElem?_append_right (by omega), hids]; rfl))
  have hlr : (ids ++ [Value.int .u32 c, .int .i64 d]).length = 22 := by simp [hids]
  obtain ⟨rr, hrr⟩ : ∃ rr, rr = ids ++ [Value.int .u32 c, .int .i64 d] := ⟨_, rfl⟩
  have hone : ∀ v ∈ rr, v.oneCell' = true := by
    rw [hrr]
    intro v hv
    rcases List.mem_append.1 hv with h | h
    · exact h1 v h
    · simp only [List.mem_cons, List.not_mem_nil, or_false] at h
      rcases h with rfl | rfl <;> rfl
  rw [← hrr] at hlr hrg
  have hrg1 : (w.alloc (.cells #[.int .u8 0, .int .u8 0, .int .u8 0, .int .u8 0, .int .u8 0, .int .u8 0, .int .u8 0, .int .u8 0, .int .u8 0, .int .u8 0, .int .u8 0, .int .u8 0, .int .u8 0, .int .u8 0, .int .u8 0, .int .u8 0, .int .u8 0, .int .u8 0, .int .u8 0, .int .u8 0] 38)).rangeAt g (i % 4096 * 22) rr := World.rangeAt_alloc hrg _
  have hth1 : ((w.alloc (.cells #[.int .u8 0, .int .u8 0, .int .u8 0, .int .u8 0, .int .u8 0, .int .u8 0, .int .u8 0, .int .u8 0, .int .u8 0, .int .u8 0, .int .u8 0, .int .u8 0, .int .u8 0, .int .u8 0, .int .u8 0, .int .u8 0, .int .u8 0, .int .u8 0, .int .u8 0, .int .u8 0] 38)).alloc (.cells #[.int .u8 0, .int .u8 0, .int .u8 0, .int .u8 0, .int .u8 0, .int .u8 0, .int .u8 0, .int .u8 0, .int .u8 0, .int .u8 0, .int .u8 0, .int .u8 0, .int .u8 0, .int .u8 0, .int .u8 0, .int .u8 0, .int .u8 0, .int .u8 0, .int .u8 0, .int .u8 0, .int .u32 0, .int .i64 0] 52)).there (w.heap.size + 1) 0 rr.toArray.size := by
    have h := there_new (w := w.alloc (.cells #[.int .u8 0, .int .u8 0, .int .u8 0, .int .u8 0, .int .u8 0, .int .u8 0, .int .u8 0, .int .u8 0, .int .u8 0, .int .u8 0, .int .u8 0, .int .u8 0, .int .u8 0, .int .u8 0, .int .u8 0, .int .u8 0, .int .u8 0, .int .u8 0, .int .u8 0, .int .u8 0] 38)) (Z := #[.int .u8 0, .int .u8 0, .int .u8 0, .int .u8 0, .int .u8 0, .int .u8 0, .int .u8 0, .int .u8 0, .int .u8 0, .int .u8 0, .int .u8 0, .int .u8 0, .int .u8 0, .int .u8 0, .int .u8 0, .int .u8 0, .int .u8 0, .int .u8 0, .int .u8 0, .int .u8 0, .int .u32 0, .int .i64 0]) (t := 52)
    simpa [hlr] using h
  have hi52 : (Trym.prog.info? 52).map (·.size) = some rr.toArray.size := by simpa [hlr] using size52
  have hi52' : (Trym.prog.info? 52).map (·.size) = some rr.length := by rw [hlr]; exact size52
  have hall := all_oneCell_toArray hone
  have HRR : Hid (rr = ids ++ [Value.int .u32 c, .int .i64 d]) := hrr
  clear hsv hcells hnb hst hln hRi hrr hrg
  go_enter Trym.func18, Trym.ntmps18
  go_wp2_with (first | (refine wpList_load_mid rfl 52 (.tmp 18) rfl g (i % 4096 * 22) rfl rr _ hrg1 Trym.underlying52 rfl hi52' ?_) | (refine wpList_store_mid rfl 52 (.tmp 9) (.tmp 19) rfl (w.heap.size + 1) 0 rr.toArray rfl rfl hth1 hi52 hall ?_))
  have hfull : (((w.alloc (.cells #[.int .u8 0, .int .u8 0, .int .u8 0, .int .u8 0, .int .u8 0, .int .u8 0, .int .u8 0, .int .u8 0, .int .u8 0, .int .u8 0, .int .u8 0, .int .u8 0, .int .u8 0, .int .u8 0, .int .u8 0, .int .u8 0, .int .u8 0, .int .u8 0, .int .u8 0, .int .u8 0] 38)).alloc (.cells #[.int .u8 0, .int .u8 0, .int .u8 0, .int .u8 0, .int .u8 0, .int .u8 0, .int .u8 0, .int .u8 0, .int .u8 0, .int .u8 0, .int .u8 0, .int .u8 0, .int .u8 0, .int .u8 0, .int .u8 0, .int .u8 0, .int .u8 0, .int .u8 0, .int .u8 0, .int .u8 0, .int .u32 0, .int .i64 0] 52)).setCells (w.heap.size + 1) 0 rr).rangeAt (w.heap.size + 1) 0 rr := World.rangeAt_setCells_same _ _ _ _ (by simpa using hth1)
  have hth2 : (((w.alloc (.cells #[.int .u8 0, .int .u8 0, .int .u8 0, .int .u8 0, .int .u8 0, .int .u8 0, .int .u8 0, .int .u8 0, .int .u8 0, .int .u8 0, .int .u8 0, .int .u8 0, .int .u8 0, .int .u8 0, .int .u8 0, .int .u8 0, .int .u8 0, .int .u8 0, .int .u8 0, .int .u8 0] 38)).alloc (.cells #[.int .u8 0, .int .u8 0, .int .u8 0, .int .u8 0, .int .u8 0, .int .u8 0, .int .u8 0, .int .u8 0, .int .u8 0, .int .u8 0, .int .u8 0, .int .u8 0, .int .u8 0, .int .u8 0, .int .u8 0, .int .u8 0, .int .u8 0, .int .u8 0, .int .u8 0, .int .u8 0, .int .u32 0, .int .i64 0] 52)).setCells (w.heap.size + 1) 0 rr).there w.heap.size 0 ids.toArray.size := by
    refine World.there_setCells (World.there_alloc ?_ _) _ _ _
    have h := there_new (w := w) (Z := #[.int .u8 0, .int .u8 0, .int .u8 0, .int .u8 0, .int .u8 0, .int .u8 0, .int .u8 0, .int .u8 0, .int .u8 0, .int .u8 0, .int .u8 0, .int .u8 0, .int .u8 0, .int .u8 0, .int .u8 0, .int .u8 0, .int .u8 0, .int .u8 0, .int .u8 0, .int .u8 0]) (t := 38)
    simpa [hids] using h
  have hbW : Below w.heap.size w (((w.alloc (.cells #[.int .u8 0, .int .u8 0, .int .u8 0, .int .u8 0, .int .u8 0, .int .u8 0, .int .u8 0, .int .u8 0, .int .u8 0, .int .u8 0, .int .u8 0, .int .u8 0, .int .u8 0, .int .u8 0, .int .u8 0, .int .u8 0, .int .u8 0, .int .u8 0, .int .u8 0, .int .u8 0] 38)).alloc (.cells #[.int .u8 0, .int .u8 0, .int .u8 0, .int .u8 0, .int .u8 0, .int .u8 0, .int .u8 0, .int .u8 0, .int .u8 0, .int .u8 0, .int .u8 0, .int .u8 0, .int .u8 0, .int .u8 0, .int .u8 0, .int .u8 0, .int .u8 0, .int .u8 0, .int .u8 0, .int .u8 0, .int .u32 0, .int .i64 0] 52)).setCells (w.heap.size + 1) 0 rr) := below_setCells (by omega) rr 0 _ (((Below.refl _ _).alloc (Nat.le_refl _) _).alloc (by simp) _)
  obtain ⟨W, hW⟩ : ∃ W, W = ((w.alloc (.cells #[.int .u8 0, .int .u8 0, .int .u8 0, .int .u8 0, .int .u8 0, .int .u8 0, .int .u8 0, .int .u8 0, .int .u8 0, .int .u8 0, .int .u8 0, .int .u8 0, .int .u8 0, .int .u8 0, .int .u8 0, .int .u8 0, .int .u8 0, .int .u8 0, .int .u8 0, .int .u8 0] 38)).alloc (.cells #[.int .u8 0, .int .u8 0, .int .u8 0, .int .u8 0, .int .u8 0, .int .u8 0, .int .u8 0, .int .u8 0, .int .u8 0, .int .u8 0, .int .u8 0, .int .u8 0, .int .u8 0, .int .u8 0, .int .u8 0, .int .u8 0, .int .u8 0, .int .u8 0, .int .u8 0, .int .u8 0, .int .u32 0, .int .i64 0] 52)).setCells (w.heap.size + 1) 0 rr := ⟨_, rfl⟩
  rw [← hW] at hfull hth2 hbW ⊢
  clear hW hth1 hrg1 hc hc0 hall hi52 hi52' hone hf0
  have hi38' : (Trym.prog.info? 38).map (·.size) = some ids.toArray.size := by simpa [hids] using size38
  have hi50 : (Trym.prog.info? 50).map (·.size) = some ids.length := by rw [hids]; exact size50
  have hall2 := all_oneCell_toArray h1
  rw [HRR.out] at hfull
  have hS0 : (fun w' : World => w'.rangeAt (w.heap.size + 1) 0 ids ∧ w'.cell? ⟨w.heap.size + 1, 20, none⟩ = some (.int .u32 c) ∧ w'.cell? ⟨w.heap.size + 1, 21, none⟩ = some (.int .i64 d)) (W.drew) := by
    refine ⟨fun j v hv => ?_, ?_, ?_⟩
    · exact hfull j v (by rw [List.getElem?_append_left (List.getElem?_eq_some_iff.1 hv).1]; exact hv)
    · exact (by simpa using hfull 20 _ (by rw [List.getElem?_append_right (by omega), hids]; rfl))
    · exact (by simpa using hfull 21 _ (by rw [List.getElem?_append_right (by omega), hids]; rfl))
  go_simp
  refine wp_region_held (S := (fun w' : World => w'.rangeAt (w.heap.size + 1) 0 ids ∧ w'.cell? ⟨w.heap.size + 1, 20, none⟩ = some (.int .u32 c) ∧ w'.cell? ⟨w.heap.size + 1, 21, none⟩ = some (.int .i64 d))) (by kernel_rfl) ?_
  change wpAnyH _ _ _ _ _ _ _ _ (World.drew _)
  refine wpAnyH_take (i := 0) (v := ?_) rfl (by kernel_rfl) (by kernel_rfl) (by kernel_rfl) (fun _ _ _ h => h) (Or.inl ⟨by rfl, ?_⟩) hS0 ?_
  rotate_left
  · intro w' hw'; have q1 := hw'.2.1; have q2 := hw'.2.2; go_simp; try with_reducible rfl
  refine wpAnyH_take (i := 1) (v := .agg ids.toArray) rfl (by kernel_rfl) (by kernel_rfl) (by kernel_rfl) (fun _ _ _ h => h) (yieldsIf_load_mid rfl 50 (.tmp 20) rfl (w.heap.size + 1) 0 ?_ ids _ (fun _ h => h.1) Trym.underlying50 rfl hi50) hS0 ?_
  · simp [Act.eval, Act.put]
  refine wpAnyH_take (i := 2) (v := ?_) rfl (by kernel_rfl) (by kernel_rfl) (by kernel_rfl) (fun _ _ _ h => h) (Or.inl ⟨by rfl, ?_⟩) hS0 ?_
  rotate_left
  · intro w' hw'; have q1 := hw'.2.1; have q2 := hw'.2.2; go_simp; try with_reducible rfl
  refine wpAnyH_take (i := 3) (v := ?_) rfl (by kernel_rfl) (by kernel_rfl) (by kernel_rfl) (fun _ _ _ h => h) (Or.inl ⟨by rfl, ?_⟩) hS0 ?_
  rotate_left
  · intro w' hw'; have q1 := hw'.2.1; have q2 := hw'.2.2; go_simp; try with_reducible rfl
  refine wpAnyH_take (i := 4) (v := ?_) rfl (by kernel_rfl) (by kernel_rfl) (by kernel_rfl) (fun _ _ _ h => h) (Or.inl ⟨by rfl, ?_⟩) hS0 ?_
  rotate_left
  · intro w' hw'; have q1 := hw'.2.1; have q2 := hw'.2.2; go_simp; try with_reducible rfl
  refine wpAnyH_take (i := 5) (v := ?_) rfl (by kernel_rfl) (by kernel_rfl) (by kernel_rfl) (fun _ _ _ h => h) (Or.inl ⟨by rfl, ?_⟩) hS0 ?_
  rotate_left
  · intro w' hw'; have q1 := hw'.2.1; have q2 := hw'.2.2; go_simp; try with_reducible rfl
  have hth3 : W.drew.there w.heap.size 0 ids.toArray.size := (World.there_drew _ _ _ _).2 hth2
  have hS1 : (fun w' : World => w'.rangeAt (w.heap.size + 1) 0 ids ∧ w'.cell? ⟨w.heap.size + 1, 20, none⟩ = some (.int .u32 c) ∧ w'.cell? ⟨w.heap.size + 1, 21, none⟩ = some (.int .i64 d)) (W.drew.setCells w.heap.size 0 ids) :=
    ⟨World.rangeAt_setCells_apart hS0.1 _ _ _ (.inl (by omega)), by rw [World.cell?_setCells_out _ _ _ _ _ (fun e => by simp at e)]; exact hS0.2.1, by rw [World.cell?_setCells_out _ _ _ _ _ (fun e => by simp at e)]; exact hS0.2.2⟩
  have hsame : (W.drew.setCells w.heap.size 0 ids).rangeAt w.heap.size 0 ids := World.rangeAt_setCells_same _ _ _ _ (by simpa using hth3)
  have hbel : Below w.heap.size w (W.drew.setCells w.heap.size 0 ids) := below_setCells (Nat.le_refl _) ids 0 _ hbW.drew
  go_simp
  refine held_one (i := 6) rfl (by kernel_rfl) rfl ?_
  refine wp_store_mid 38 (.tmp 6) (.tmp 21) rfl w.heap.size 0 ids.toArray rfl rfl hth3 hi38' hall2 ?_
  refine ⟨by simpa using hS1, ?_⟩
  obtain ⟨W2, hW2⟩ : ∃ W2, W2 = W.drew.setCells w.heap.size 0 ids := ⟨_, rfl⟩
  rw [← hW2] at hS1 hsame hbel ⊢
  clear hth2 hth3 hS0 hbW hW2
  refine held_one (i := 7) rfl (by kernel_rfl) rfl ?_
  go_simp
  refine held_one (i := 8) rfl (by kernel_rfl) rfl ?_
  go_simp
  refine wpAnyH_done (by kernel_rfl) ?_ _
  go_wp2
  refine bodyPost_ret (v := .tuple #[.agg ids.toArray, .int .u32 c, .int .i64 d]) ?_ rfl ⟨rfl, hbel⟩
  rw [results_cell3 (p := 6) (ty := 38) (u := 7) (v := 8) rfl]
  have hl := run_loadVar_mid (P := Trym.prog) W2 w.heap.size 0 38 ids _ hsame Trym.underlying38 rfl (by rw [hids]; exact size38)
  simp [asAddr, hl]

/-- What the loops keep: m records are in; the copy of the records is there. -/
def LK (T : Nat → Prop) (w wr : World) (br : Nat) (R : List (List Value)) (n : Nat) (av : Value) (m : Nat) : Prop :=
  ∃ bv SV, StN T wr br (R.take m) (nbOf m) bv SV ∧ wr.ownsRow 0 40 22 av n R.flatten ∧ Below w.heap.size w wr ∧ ∀ k, wr.heap.size ≤ k → T k

theorem LK.add {T : Nat → Prop} {w wr w' : World} {br n m : Nat} {R : List (List Value)} {av : Value} {bv' : Value} {SV' : Nat → Value} (hm : m < R.length)
    (h2 : wr.ownsRow 0 40 22 av n R.flatten) (h4 : Below w.heap.size w wr) (h5 : ∀ k, wr.heap.size ≤ k → T k)
    (ha : ∀ k, av.ownBlock = some k → ¬ T k) (hTw : ∀ k, k < w.heap.size → ¬ T k)
    (hst : StN T w' br (R.take m ++ [R[m]]) (nbOf ((R.take m).length + 1)) bv' SV') (hg : Grew wr w' T) : LK T w w' br R n av (m + 1) := by
  have hl : (R.take m).length = m := by simp; omega
  rw [hl] at hst
  refine ⟨bv', SV', ?_, owns_grew h2 hg ha, h4.trans (hg.below (by have := h4.size; omega) hTw), fun k hk => h5 k (Nat.le_trans hg.size hk)⟩
  rw [List.take_succ_eq_append_getElem hm]; exact hst

theorem lk_start {w w1 : World} {R : List (List Value)} {n cap1 : Nat} {a1 : Option Addr} (bel1 : Below w.heap.size w w1) (own1 : w1.ownsRow w.heap.size 40 22 (.slice a1 n cap1) n R.flatten) :
    LK (fun k => w1.heap.size ≤ k) w (w1.alloc (.cells #[.slice none 0 0, .int .i64 0] 35)) w1.heap.size R n (.slice a1 n cap1) 0 := by
  refine ⟨.slice none 0 0, fun _ => .slice none 0 0, ?_, owns_base (own1.alloc _) (fun _ _ => Nat.zero_le _), bel1.alloc bel1.size _, fun k hk => by simp at hk; omega⟩
  exact ⟨Nat.le_refl _, heap_alloc_new w1 _, (fun k hk => by simp [Value.ownBlock] at hk), World.ownsRow_nil _ _ _ _, (fun b hb => by simp [nbOf] at hb), (fun b hb => by simp [nbOf] at hb), (fun b b' hb => by simp [nbOf] at hb), (fun b h1 hb => by simp [nbOf] at hb)⟩

theorem LK.keep {T : Nat → Prop} {w wr w' : World} {br n m : Nat} {R : List (List Value)} {av : Value} (h : LK T w wr br R n av m) (hb : Below wr.heap.size wr w') : LK T w w' br R n av m := by
  obtain ⟨bv, SV, h1, h2, h4, h5⟩ := h
  have hg : Grew wr w' (fun k => wr.heap.size ≤ k) := Grew.of_below hb
  have lt : ∀ {e size v n xs}, wr.ownsRow 0 e size v n xs → ∀ k, v.ownBlock = some k → ¬ wr.heap.size ≤ k := fun h k hk => by have := (h.lt k hk).2; omega
  exact ⟨bv, SV, h1.grew hg (by have := h1.br_lt; omega) (lt h1.bo) (fun b hb => lt (h1.rows b hb)), owns_grew h2 hg (lt h2), h4.trans (hb.mono h4.size), fun k hk => h5 k (Nat.le_trans hb.size hk)⟩
end Go.Proofs.Qxb6601483aMods
