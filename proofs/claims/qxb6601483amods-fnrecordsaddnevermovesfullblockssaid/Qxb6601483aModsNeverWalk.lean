/-
  FnRecordsAddNeverMovesFullBlocks (6): the walk of the main way.
-/
import Derived.Test.Qxb6601483aModsNever
namespace Go.Proofs.Qxb6601483aMods
open Go.ChangeShapes Go.WideShapes Go.ChangeAt Go.RowKit

theorem Trym.info46 : (Trym.prog.info? 46).map (fun i => (i.zero, i.size, i.bytes)) = some (some (.pointer none), 1, 8) := by kernel_rfl

set_option maxHeartbeats 4000000 in
set_option maxRecDepth 100000 in
theorem f6_main (a : Option Addr) (len cap : Nat) (Q : List (List Value × Int × Int)) (w : World) (hQ : ∀ q ∈ Q, RecOk q) (hrow : RecsIn w a len cap (Q.map cellsOf)) (hsm : Q.length ≤ 32768) :
    Calls Trym.prog 6 #[.slice a len cap] w fun e w' => e = .returned (.bool true) ∧ Below w.heap.size w w' := by
  obtain ⟨R, hR⟩ : ∃ R, R = Q.map cellsOf := ⟨_, rfl⟩
  have hRl : R.length = Q.length := by rw [hR]; simp
  rw [← hR] at hrow
  obtain ⟨n, hn⟩ : ∃ n, n = R.length := ⟨_, rfl⟩
  have hlen := hrow.1
  rw [← hn] at hlen
  subst hlen
  have hR22 := hrow.2.1
  have hn2 : len ≤ 32768 := by omega
  have ht1 : decide ((32768 : Int) < (len : Int)) = false := by simp; omega
  have hn2i : (len : Int) ≤ 32768 := by omega
  obtain ⟨ff, hff⟩ : ∃ ff, ff = min len 4096 := ⟨_, rfl⟩
  have hf1 : ff ≤ len := by omega
  have hf2 : ff ≤ 4096 := by omega
  have HF : Hid (ff = min len 4096) := hff
  have HR : Hid (R = Q.map cellsOf ∧ R.length = Q.length ∧ len = R.length ∧ (∀ q ∈ Q, RecOk q) ∧ ∀ r ∈ R, r.length = 22) := ⟨hR, hRl, hn, hQ, hR22⟩
  have HROW : Hid (RecsIn w a len cap R) := hrow
  clear hR hRl hn hQ hR22 hff hrow hsm
  obtain ⟨i46, hi46, hz460, hz461, hz462⟩ := info_parts Trym.info46
  go_enter Trym.func6, Trym.ntmps6
  go_wp2_with fail
  refine (f21_any a len cap _ (by omega)).mono ?_
  rintro e w' ⟨⟨b, rfl⟩, rfl⟩
  cases b with
  | false =>
    go_wp2
    go_ret
    exact ⟨rfl, Below.refl _ _⟩
  | true =>
    go_wp2_with fail
    refine (f13_any a len cap R _ HROW.out (by have := HR.out.2.2.1; omega)).mono ?_
    rintro e w1 ⟨a1, cap1, rfl, own1, bel1⟩
    rw [← HR.out.2.2.1] at own1 ⊢
    go_upto_if 25 with fail
    go_cut [4] (fun s4 wx => s4 = .int .i64 (ff : Nat) ∧ w1 = wx)
    case first =>
      go_wp2_with fail
      all_goals go_meet
      all_goals exact ⟨by rw [HF.out]; go_num, rfl⟩
    case rest =>
    obtain ⟨rfl, rfl⟩ := hcut
    go_wp2_with (at_make; refine wpList_make_full _ rfl _ _ 48 rfl 0 46 i46 (.pointer none) 1 Trym.underlying48 hi46 hz460 hz461 .i64 .i64 _ _ len rfl rfl rfl rfl (by rw [hz462]; omega) (by unfold maxLen; omega) (Nat.zero_le _) ?_; intro w2 own2 gr2)
    have hT : ∃ T : Nat → Prop, T = (fun k => k = w1.heap.size ∨ w1.heap.size + 2 ≤ k) := ⟨_, rfl⟩
    obtain ⟨T, hTe⟩ := hT
    have hll0 := ll_start (R := R) bel1 own1 (by simpa using own2) gr2
    rw [← hTe] at hll0
    obtain ⟨br, hbr⟩ : ∃ br, br = w1.heap.size := ⟨_, rfl⟩
    rw [← hbr] at hll0 hTe ⊢
    have hTa : ∀ k, (Value.slice a1 len cap1).ownBlock = some k → ¬ T k := fun k hk => by have := (own1.lt k hk).2; rw [hTe]; omega
    have hTp : ¬ T (br + 1) := by rw [hTe]; omega
    have hTw : ∀ k, k < w.heap.size → ¬ T k := fun k hk => by have := bel1.size; rw [hTe]; omega
    have hwp : w.heap.size ≤ br + 1 := by have := bel1.size; omega
    have hap : (Value.slice a1 len cap1).ownBlock ≠ some (br + 1) := fun e => by have := (own1.lt _ e).2; omega
    clear hTe own1 own2 gr2 bel1 hbr
    go_loopw [7] (fun jv wr => ∃ j : Nat, j ≤ len ∧ jv = .int .i64 j ∧ LL T w wr br R len (.slice a1 len cap1) (.slice (some ⟨br + 1, 0, none⟩) len len) j (fun i => (i < ff ∧ ff ≤ j) ∨ (4096 ≤ i ∧ i < j)))
      (fun i _ => len - (intOf i).toNat)
    case atStart => exact ⟨0, Nat.zero_le _, rfl, hll0.mono (fun i hi h => by have := HF.out; omega)⟩
    case round =>
      clear hll0
      obtain ⟨j, hj, rfl, hLL⟩ := hrel
      by_cases hlt : j < len
      · obtain ⟨bv, SV, PL, hst, ho2, ho3, hbel, hnew, hptr⟩ := hLL
        obtain ⟨ga, cg, hv⟩ := owns_shape ho2 (by omega)
        cases hv
        have hjQ : j < Q.length := by have := HR.out.2.1; have := HR.out.2.2.1; omega
        have hjR : j < R.length := by have := HR.out.2.2.1; omega
        have hqok : RecOk Q[j] := HR.out.2.2.2.1 _ (List.getElem_mem hjQ)
        have hqr := q_range HR.out.1 HR.out.2.2.2.2 ho2 j hjQ
        have hRj : R[j] = cellsOf Q[j] := by have := HR.out.1; subst this; simp
        obtain ⟨q, hq⟩ : ∃ q, q = Q[j] := ⟨_, rfl⟩
        rw [← hq] at hqok hqr hRj
        obtain ⟨ids, c, d⟩ := q
        have hids : ids.length = 20 := hqok.1
        have hone := hqok.one
        obtain ⟨z1, z2, z3⟩ := q_parts hqok hqr
        simp only at z1 z2 z3 hone
        have hji : (j : Int) < (len : Int) := by omega
        have hi38 : (Trym.prog.info? 38).map (·.size) = some ids.length := by rw [hids]; exact size38
        have hnTa : ¬ T ga := hTa ga rfl
        have HRJ : Hid (R[j] = ids ++ [.int .u32 c, .int .i64 d]) := hRj
        have HST : Hid (StN T wr br (R.take j) (nbOf j) bv SV) := hst
        have HPT : Hid (∀ i, i < len → (fun i => (i < ff ∧ ff ≤ j) ∨ (4096 ≤ i ∧ i < j)) i → PtrOk SV PL i) := hptr
        have HNW : Hid (∀ k, wr.heap.size ≤ k → T k) := hnew
        clear hq hRj hst hptr hnew
        go_wp2_with fail
        have hS0 : (fun w' : World => w'.rangeAt ga (j * 22) ids ∧ w'.cell? ⟨ga, j * 22 + 20, none⟩ = some (.int .u32 c) ∧ w'.cell? ⟨ga, j * 22 + 21, none⟩ = some (.int .i64 d)) (wr.drew) := ⟨z1, z2, z3⟩
        refine wp_region_held (S := fun w' : World => w'.rangeAt ga (j * 22) ids ∧ w'.cell? ⟨ga, j * 22 + 20, none⟩ = some (.int .u32 c) ∧ w'.cell? ⟨ga, j * 22 + 21, none⟩ = some (.int .i64 d)) (by kernel_rfl) ?_
        change wpAnyH _ _ _ _ _ _ _ _ (World.drew _)
        refine wpAnyH_take (i := 0) (v := ?_) rfl (by kernel_rfl) (by kernel_rfl) (by kernel_rfl) (fun _ _ _ h => h) (Or.inl ⟨by rfl, ?_⟩) hS0 ?_
        rotate_left
        · intro w' hw'; have q1 := hw'.2.1; have q2 := hw'.2.2; go_simp; try with_reducible rfl
        refine wpAnyH_take (i := 1) (v := ?_) rfl (by kernel_rfl) (by kernel_rfl) (by kernel_rfl) (fun _ _ _ h => h) (Or.inl ⟨by rfl, ?_⟩) hS0 ?_
        rotate_left
        · intro w' hw'; have q1 := hw'.2.1; have q2 := hw'.2.2; go_simp; try with_reducible rfl
        refine wpAnyH_take (i := 2) (v := ?_) rfl (by kernel_rfl) (by kernel_rfl) (by kernel_rfl) (fun _ _ _ h => h) (Or.inl ⟨by rfl, ?_⟩) hS0 ?_
        rotate_left
        · intro w' hw'; have q1 := hw'.2.1; have q2 := hw'.2.2; go_simp; try with_reducible rfl
        refine wpAnyH_take (i := 3) (v := ?_) rfl (by kernel_rfl) (by kernel_rfl) (by kernel_rfl) (fun _ _ _ h => h) (Or.inl ⟨by rfl, ?_⟩) hS0 ?_
        rotate_left
        · intro w' hw'; have q1 := hw'.2.1; have q2 := hw'.2.2; go_simp; try with_reducible rfl
        refine wpAnyH_take (i := 4) (v := .agg ids.toArray) rfl (by kernel_rfl) (by kernel_rfl) (by kernel_rfl) (fun _ _ _ h => h) (yieldsIf_load_mid rfl 38 (.tmp 37) rfl ga (j * 22) ?_ ids _ (fun _ h => h.1) Trym.underlying38 rfl hi38) hS0 ?_
        · simp [Act.eval, Act.put]
        refine wpAnyH_take (i := 5) (v := ?_) rfl (by kernel_rfl) (by kernel_rfl) (by kernel_rfl) (fun _ _ _ h => h) (Or.inl ⟨by rfl, ?_⟩) hS0 ?_
        rotate_left
        · intro w' hw'; have q1 := hw'.2.1; have q2 := hw'.2.2; go_simp; try with_reducible rfl
        refine wpAnyH_take (i := 6) (v := ?_) rfl (by kernel_rfl) (by kernel_rfl) (by kernel_rfl) (fun _ _ _ h => h) (Or.inl ⟨by rfl, ?_⟩) hS0 ?_
        rotate_left
        · intro w' hw'; have q1 := hw'.2.1; have q2 := hw'.2.2; go_simp; try with_reducible rfl
        refine wpAnyH_take (i := 7) (v := ?_) rfl (by kernel_rfl) (by kernel_rfl) (by kernel_rfl) (fun _ _ _ h => h) (Or.inl ⟨by rfl, ?_⟩) hS0 ?_
        rotate_left
        · intro w' hw'; have q1 := hw'.2.1; have q2 := hw'.2.2; go_simp; try with_reducible rfl
        refine wpAnyH_take (i := 8) (v := ?_) rfl (by kernel_rfl) (by kernel_rfl) (by kernel_rfl) (fun _ _ _ h => h) (Or.inl ⟨by rfl, ?_⟩) hS0 ?_
        rotate_left
        · intro w' hw'; have q1 := hw'.2.1; have q2 := hw'.2.2; go_simp; try with_reducible rfl
        refine wpAnyH_take (i := 9) (v := ?_) rfl (by kernel_rfl) (by kernel_rfl) (by kernel_rfl) (fun _ _ _ h => h) (Or.inl ⟨by rfl, ?_⟩) hS0 ?_
        rotate_left
        · intro w' hw'; have q1 := hw'.2.1; have q2 := hw'.2.2; go_simp; try with_reducible rfl
        refine wpAnyH_take (i := 10) (v := ?_) rfl (by kernel_rfl) (by kernel_rfl) (by kernel_rfl) (fun _ _ _ h => h) (Or.inl ⟨by rfl, ?_⟩) hS0 ?_
        rotate_left
        · intro w' hw'; have q1 := hw'.2.1; have q2 := hw'.2.2; go_simp; try with_reducible rfl
        refine wpAnyH_take (i := 11) (v := ?_) rfl (by kernel_rfl) (by kernel_rfl) (by kernel_rfl) (fun _ _ _ h => h) (Or.inl ⟨by rfl, ?_⟩) hS0 ?_
        rotate_left
        · intro w' hw'; have q1 := hw'.2.1; have q2 := hw'.2.2; go_simp; try with_reducible rfl
        refine wpAnyH_take (i := 12) (v := ?_) rfl (by kernel_rfl) (by kernel_rfl) (by kernel_rfl) (fun _ _ _ h => h) (Or.inl ⟨by rfl, ?_⟩) hS0 ?_
        rotate_left
        · intro w' hw'; have q1 := hw'.2.1; have q2 := hw'.2.2; go_simp; try with_reducible rfl
        refine wpAnyH_take (i := 13) (v := ?_) rfl (by kernel_rfl) (by kernel_rfl) (by kernel_rfl) (fun _ _ _ h => h) (Or.inl ⟨by rfl, ?_⟩) hS0 ?_
        rotate_left
        · intro w' hw'; have q1 := hw'.2.1; have q2 := hw'.2.2; go_simp; try with_reducible rfl
        refine wpAnyH_take (i := 14) (v := ?_) rfl (by kernel_rfl) (by kernel_rfl) (by kernel_rfl) (fun _ _ _ h => h) (Or.inl ⟨by rfl, ?_⟩) hS0 ?_
        rotate_left
        · intro w' hw'; have q1 := hw'.2.1; have q2 := hw'.2.2; go_simp; try with_reducible rfl
        go_simp
        refine held_one (i := 15) rfl (by kernel_rfl) rfl ?_
        go_simp
        have hstd : StN T wr.drew br (R.take j) (nbOf j) bv SV := HST.out.grew ((Grew.refl wr (fun _ => False)).drew) id (fun _ _ h => h) (fun _ _ _ _ h => h)
        have htl : (R.take j).length = j := by simp; omega
        have H14 := f14_any br (nbOf j) T (R.take j) bv SV ids c d wr.drew hstd (by rw [htl]) (by rw [htl]; omega) (fun k hk => HNW.out k hk) hids hone
        refine H14.mono ?_
        clear H14
        rintro e w3 ⟨rfl, bv', SV', s1, s2, s3⟩
        have s2' : Grew wr w3 T := ((Grew.refl wr T).drew).trans s2
        have hLL1 : LL T w w3 br R len (.slice (some ⟨ga, 0, none⟩) len cap1) (.slice (some ⟨br + 1, 0, none⟩) len len) (j + 1) (fun i => (i < ff ∧ ff ≤ j) ∨ (4096 ≤ i ∧ i < j)) :=
          LL.add hjR ho2 ho3 hbel HNW.out HPT.out hTa (fun k hk => by cases hk; exact hTp) hTw (by rw [HRJ.out]; exact s1) s2' s3 (fun i hi h => by have := HF.out; omega)
        have r3 := range_grew hqr s2' hnTa
        refine ⟨q_parts hqok r3, ?_⟩
        clear hstd s1 s2 s3 s2' r3 hS0 z1 z2 z3 hqr ho2 ho3 hbel HST HPT HNW hids hone hi38 hqok HRJ
        refine wpAnyH_done (by kernel_rfl) ?_ _
        cases hq1 : ((j : Int) == (ff : Int) - 1) with
        | true =>
          have HJF : Hid (j + 1 = ff) := by simp at hq1; simp only [Hid]; omega
          go_wp2_with fail
          go_loopw [8] (fun iv wx => ∃ i : Nat, i ≤ j + 1 ∧ iv = .int .i64 i ∧ LL T w wx br R len (.slice (some ⟨ga, 0, none⟩) len cap1) (.slice (some ⟨br + 1, 0, none⟩) len len) (j + 1) (fun x => x < i))
            (fun i _ => j + 1 - (intOf i).toNat)
          case atStart => exact ⟨0, Nat.zero_le _, rfl, hLL1.mono (fun i _ h => by omega)⟩
          case round =>
            clear hLL1
            obtain ⟨i, hi, rfl, hLL2⟩ := hrel
            by_cases hij : i ≤ j
            · obtain ⟨bv2, SV2, PL2, hst2, ho2, ho3, hbel, hnew, hptr⟩ := hLL2
              obtain ⟨y0, hy0⟩ := own_some ho3 i (by omega)
              have hyf := ho3.frozenAt i
              have htl : (R.take (j + 1)).length = j + 1 := by simp; omega
              have H20 := f20_any br i T (R.take (j + 1)) (nbOf (j + 1)) bv2 SV2 wr hst2 (by rw [htl]) (by omega) (by omega)
              have hii : (i : Int) < (len : Int) := by omega
              have HALL : Hid (∀ g, (SV2 (i / 4096)).ownBlock = some g → LL T w (wr.setCell ⟨br + 1, i, none⟩ (.pointer (some ⟨g, i % 4096 * 22, none⟩))) br R len (.slice (some ⟨ga, 0, none⟩) len cap1) (.slice (some ⟨br + 1, 0, none⟩) len len) (j + 1) (fun x => x < i + 1)) :=
                fun g hg => (LL.ptr hst2 ho2 ho3 hbel hnew hptr hTp hwp hap i g (by omega) hg).mono (fun x _ hx => by omega)
              clear hst2 ho2 ho3 hbel hnew hptr htl
              have HH20 : Hid (Calls Trym.prog 20 #[.pointer (some ⟨br, 0, none⟩), .int .i64 i] wr fun e w' => ∃ g, e = .returned (.pointer (some ⟨g, i % 4096 * 22, none⟩)) ∧ (SV2 (i / 4096)).ownBlock = some g ∧ wr = w') := H20
              clear H20
              go_wp2_with fail
              refine (Calls.mono HH20.out ?_)
              rintro e w4 ⟨g4, rfl, hg4, rfl⟩
              have hll4 := HALL.out g4 hg4
              clear HALL HH20 hg4
              go_wp2_with fail
              go_roundw
              case rel => exact ⟨i + 1, by omega, by go_num, hll4⟩
              case measure => simp [intOf]; omega
            · obtain rfl : i = j + 1 := by omega
              go_wp2_with fail
              go_roundw
              case rel => exact ⟨j + 1, by omega, by go_num, hLL2.mono (fun x _ hx => by have := HJF.out; omega)⟩
              case measure => simp [intOf]; omega
        | false =>
          by_cases hq2 : (4096 : Int) ≤ (j : Int)
          · obtain ⟨bv2, SV2, PL2, hst2, ho2, ho3, hbel, hnew, hptr⟩ := hLL1
            obtain ⟨y0, hy0⟩ := own_some ho3 j (by omega)
            have hyf := ho3.frozenAt j
            have htl : (R.take (j + 1)).length = j + 1 := by simp; omega
            have H20 := f20_any br j T (R.take (j + 1)) (nbOf (j + 1)) bv2 SV2 w3 hst2 (by rw [htl]) (by omega) (by omega)
            have HALL : Hid (∀ g, (SV2 (j / 4096)).ownBlock = some g → LL T w (w3.setCell ⟨br + 1, j, none⟩ (.pointer (some ⟨g, j % 4096 * 22, none⟩))) br R len (.slice (some ⟨ga, 0, none⟩) len cap1) (.slice (some ⟨br + 1, 0, none⟩) len len) (j + 1) (fun i => (i < ff ∧ ff ≤ j + 1) ∨ (4096 ≤ i ∧ i < j + 1))) :=
              fun g hg => (LL.ptr hst2 ho2 ho3 hbel hnew hptr hTp hwp hap j g (by omega) hg).mono (fun x _ hx => by omega)
            clear hst2 ho2 ho3 hbel hnew hptr htl
            have HH20 : Hid (Calls Trym.prog 20 #[.pointer (some ⟨br, 0, none⟩), .int .i64 j] w3 fun e w' => ∃ g, e = .returned (.pointer (some ⟨g, j % 4096 * 22, none⟩)) ∧ (SV2 (j / 4096)).ownBlock = some g ∧ w3 = w') := H20
            clear H20
            go_wp2_with fail
            refine (Calls.mono HH20.out ?_)
            rintro e w4 ⟨g4, rfl, hg4, rfl⟩
            have hll4 := HALL.out g4 hg4
            clear HALL HH20 hg4
            go_wp2_with fail
            go_roundw
            case rel => exact ⟨j + 1, by omega, by go_num, hll4⟩
            case measure => simp [intOf]; omega
          · go_wp2_with fail
            go_roundw
            case rel => exact ⟨j + 1, by omega, by go_num, hLL1.mono (fun i hi h => by simp at hq1; omega)⟩
            case measure => simp [intOf]; omega
      · obtain rfl : j = len := by omega
        have hLL3 := hLL.mono (tk' := fun _ => True) (fun i hi _ => by have := HF.out; omega)
        clear hLL
        go_wp2_with fail
        go_loopw [9] (fun iv wr => ∃ i : Nat, i ≤ j ∧ iv = .int .i64 i ∧ LL T w wr br R j (.slice a1 j cap1) (.slice (some ⟨br + 1, 0, none⟩) j j) j (fun _ => True))
          (fun i _ => j - (intOf i).toNat)
        case atStart => exact ⟨0, Nat.zero_le _, rfl, hLL3⟩
        case round =>
          clear hLL3
          obtain ⟨i, hi, rfl, hLL⟩ := hrel
          by_cases hlt2 : i < j
          · have hLLk := hLL
            obtain ⟨bv, SV, PL, hst, ho2, ho3, hbel, hnew, hptr⟩ := hLL
            obtain ⟨ga, cg, hv⟩ := owns_shape ho2 (by omega)
            cases hv
            obtain ⟨g, hg1, hg2⟩ := hptr i hlt2 trivial
            have hjR : j = R.length := HR.out.2.2.1
            have htl : R.take j = R := by rw [hjR]; simp
            rw [htl] at hst
            have hcell : wr.cell? ⟨br + 1, i, none⟩ = some (.pointer (some ⟨g, i % 4096 * 22, none⟩)) := by rw [ho3.cellAt i (by omega)]; exact hg2
            have H20 : ∀ nn, Calls Trym.prog 20 #[.pointer (some ⟨br, 0, none⟩), .int .i64 i] (wr.drewN nn) fun e w' => e = .returned (.pointer (some ⟨g, i % 4096 * 22, none⟩)) ∧ w' = wr.drewN nn := by
              intro nn
              have hstn : StN T (wr.drewN nn) br R (nbOf j) bv SV := hst.grew (S := fun _ => False) ⟨rfl, rfl, rfl, Nat.le_refl _, fun _ _ _ => rfl⟩ id (fun _ _ h => h) (fun _ _ _ _ h => h)
              refine (f20_any br i T R (nbOf j) bv SV _ hstn (by rw [hjR]) (by omega) (by omega)).mono ?_
              rintro e w' ⟨g', rfl, h2, rfl⟩
              rw [hg1] at h2
              cases h2
              exact ⟨rfl, rfl⟩
            have hiQ : i < Q.length := by have := HR.out.2.1; omega
            have hqok : RecOk Q[i] := HR.out.2.2.2.1 _ (List.getElem_mem hiQ)
            have hqr := q_range HR.out.1 HR.out.2.2.2.2 ho2 i hiQ
            have hRi : R[i]'(by omega) = cellsOf Q[i] := by have := HR.out.1; subst this; simp
            have hpr : wr.rangeAt g (i % 4096 * 22) (R[i]'(by omega)) := rec_range HR.out.2.2.2.2 hst (by rw [hjR]) (by omega) hg1
            rw [hRi] at hpr
            obtain ⟨q, hq⟩ : ∃ q, q = Q[i] := ⟨_, rfl⟩
            rw [← hq] at hqok hqr hpr
            obtain ⟨ids, c, d⟩ := q
            have hii : (i : Int) < (j : Int) := by omega
            have HH : Hid (LL T w wr br R j (.slice (some ⟨ga, 0, none⟩) j cap1) (.slice (some ⟨br + 1, 0, none⟩) j j) j (fun _ => True)) := hLLk
            have HC : Hid (∀ nn, Calls Trym.prog 20 #[.pointer (some ⟨br, 0, none⟩), .int .i64 i] (wr.drewN nn) fun e w' => e = .returned (.pointer (some ⟨g, i % 4096 * 22, none⟩)) ∧ w' = wr.drewN nn) := H20
            clear hq hRi htl hst ho2 ho3 hbel hnew hptr hg1 hg2 H20 hLLk hjR
            have hneq := neq46 ⟨g, i % 4096 * 22, none⟩
            go_wp2_with fail
            go_quiet ((go_at_call 20; exact Calls.quiet_of_same (HC.out _)))
            have hids : ids.length = 20 := hqok.1
            have hone := hqok.one
            have hneq2 := neq38 ids hids hqok.2
            have hi38 : (Trym.prog.info? 38).map (·.size) = some ids.length := by rw [hids]; exact size38
            have hi38' : (Trym.prog.info? 38).map (·.size) = some ids.toArray.size := by simpa using hi38
            have hall := all_oneCell_toArray hone
            obtain ⟨z1, z2, z3⟩ := q_parts hqok hqr
            simp only at z1 z2 z3 hone
            have H19 := f19_any g (i % 4096 * 22) ids c d (wr.drewN nq) hids hone hpr
            have HC19 : Hid (Calls Trym.prog 19 #[.pointer (some ⟨g, i % 4096 * 22, none⟩)] (wr.drewN nq) fun e w' => e = .returned (.tuple #[.agg ids.toArray, .int .u32 c, .int .i64 d]) ∧ Below (wr.drewN nq).heap.size (wr.drewN nq) w') := H19
            clear H19 HC
            go_wp2_with fail
            refine Calls.mono HC19.out ?_
            rintro e w5 ⟨rfl, b5⟩
            clear HC19
            have hth : (w5.alloc (.cells #[.int .u8 0, .int .u8 0, .int .u8 0, .int .u8 0, .int .u8 0, .int .u8 0, .int .u8 0, .int .u8 0, .int .u8 0, .int .u8 0, .int .u8 0, .int .u8 0, .int .u8 0, .int .u8 0, .int .u8 0, .int .u8 0, .int .u8 0, .int .u8 0, .int .u8 0, .int .u8 0] 38)).there w5.heap.size 0 ids.toArray.size := by
              have h := there_new (w := w5) (Z := #[.int .u8 0, .int .u8 0, .int .u8 0, .int .u8 0, .int .u8 0, .int .u8 0, .int .u8 0, .int .u8 0, .int .u8 0, .int .u8 0, .int .u8 0, .int .u8 0, .int .u8 0, .int .u8 0, .int .u8 0, .int .u8 0, .int .u8 0, .int .u8 0, .int .u8 0, .int .u8 0]) (t := 38)
              simpa [hids] using h
            go_wp2_with (refine wpList_store_mid rfl 38 (.tmp 10) (.tmp 89) rfl w5.heap.size 0 ids.toArray rfl rfl hth hi38' hall ?_)
            have hbz : Below wr.heap.size wr ((w5.alloc (.cells #[.int .u8 0, .int .u8 0, .int .u8 0, .int .u8 0, .int .u8 0, .int .u8 0, .int .u8 0, .int .u8 0, .int .u8 0, .int .u8 0, .int .u8 0, .int .u8 0, .int .u8 0, .int .u8 0, .int .u8 0, .int .u8 0, .int .u8 0, .int .u8 0, .int .u8 0, .int .u8 0] 38)).setCells w5.heap.size 0 ids) :=
              below_setCells b5.size ids 0 _ (Below.alloc (a := wr) (below_of_drewN b5) b5.size _)
            have hk1 : ((w5.alloc (.cells #[.int .u8 0, .int .u8 0, .int .u8 0, .int .u8 0, .int .u8 0, .int .u8 0, .int .u8 0, .int .u8 0, .int .u8 0, .int .u8 0, .int .u8 0, .int .u8 0, .int .u8 0, .int .u8 0, .int .u8 0, .int .u8 0, .int .u8 0, .int .u8 0, .int .u8 0, .int .u8 0] 38)).setCells w5.heap.size 0 ids).rangeAt w5.heap.size 0 ids := World.rangeAt_setCells_same _ _ _ _ (by simpa using hth)
            obtain ⟨W6, hW6⟩ : ∃ W6, W6 = (w5.alloc (.cells #[.int .u8 0, .int .u8 0, .int .u8 0, .int .u8 0, .int .u8 0, .int .u8 0, .int .u8 0, .int .u8 0, .int .u8 0, .int .u8 0, .int .u8 0, .int .u8 0, .int .u8 0, .int .u8 0, .int .u8 0, .int .u8 0, .int .u8 0, .int .u8 0, .int .u8 0, .int .u8 0] 38)).setCells w5.heap.size 0 ids := ⟨_, rfl⟩
            rw [← hW6] at hbz hk1 ⊢
            clear hW6 hth
            have hqr6 := range_grew hqr (Grew.of_below hbz) (by have := World.block_lt_of_cell? wr _ z2; simp at this; omega)
            have hLL6 := HH.out.keep hbz
            obtain ⟨k2, k3, k4⟩ := q_parts hqok hqr6
            simp only at k2 k3 k4
            have k1 : (W6.drew).rangeAt w5.heap.size 0 ids := hk1
            clear hqr6 hk1 hbz b5 z1 z2 z3 hpr hqr HH hall hi38' hcell hneq
            have hLL7 : LL T w W6.drew br R j (.slice (some ⟨ga, 0, none⟩) j cap1) (.slice (some ⟨br + 1, 0, none⟩) j j) j (fun _ => True) := hLL6.keep ((Below.refl _ _).drew)
            have HL7 : Hid (LL T w W6.drew br R j (.slice (some ⟨ga, 0, none⟩) j cap1) (.slice (some ⟨br + 1, 0, none⟩) j j) j (fun _ => True)) := hLL7
            clear hLL6 hLL7
            refine wp_region_held (S := fun w' : World => w' = W6.drew) (by kernel_rfl) ?_
            change wpAnyH _ _ _ _ _ _ _ _ (World.drew _)
            refine wpAnyH_take (i := 0) (v := .agg ids.toArray) rfl (by kernel_rfl) (by kernel_rfl) (by kernel_rfl) (fun _ _ _ h => h) (yieldsIf_load_mid rfl 38 (.tmp 10) rfl w5.heap.size 0 ?_ ids _ (fun _ h => h ▸ k1) Trym.underlying38 rfl hi38) rfl ?_
            · simp [Act.eval]
            refine wpAnyH_take (i := 1) (v := ?_) rfl (by kernel_rfl) (by kernel_rfl) (by kernel_rfl) (fun _ _ _ h => h) (Or.inl ⟨by rfl, ?_⟩) rfl ?_
            rotate_left
            · intro w' hw'; subst hw'; go_simp; try with_reducible rfl
            refine wpAnyH_take (i := 2) (v := ?_) rfl (by kernel_rfl) (by kernel_rfl) (by kernel_rfl) (fun _ _ _ h => h) (Or.inl ⟨by rfl, ?_⟩) rfl ?_
            rotate_left
            · intro w' hw'; subst hw'; go_simp; try with_reducible rfl
            refine wpAnyH_take (i := 3) (v := ?_) rfl (by kernel_rfl) (by kernel_rfl) (by kernel_rfl) (fun _ _ _ h => h) (Or.inl ⟨by rfl, ?_⟩) rfl ?_
            rotate_left
            · intro w' hw'; subst hw'; go_simp; try with_reducible rfl
            refine wpAnyH_take (i := 4) (v := ?_) rfl (by kernel_rfl) (by kernel_rfl) (by kernel_rfl) (fun _ _ _ h => h) (Or.inl ⟨by rfl, ?_⟩) rfl ?_
            rotate_left
            · intro w' hw'; subst hw'; go_simp; try with_reducible rfl
            refine wpAnyH_take (i := 5) (v := .agg ids.toArray) rfl (by kernel_rfl) (by kernel_rfl) (by kernel_rfl) (fun _ _ _ h => h) (yieldsIf_load_mid rfl 38 (.tmp 96) rfl ga (i * 22) ?_ ids _ (fun _ h => h ▸ k2) Trym.underlying38 rfl hi38) rfl ?_
            · simp [Act.eval, Act.put]
            refine wpAnyH_take (i := 6) (v := ?_) rfl (by kernel_rfl) (by kernel_rfl) (by kernel_rfl) (fun _ _ _ h => h) (Or.inl ⟨by rfl, ?_⟩) rfl ?_
            rotate_left
            · intro w' hw'; subst hw'; go_simp; try with_reducible rfl
            refine wpAnyH_take (i := 7) (v := ?_) rfl (by kernel_rfl) (by kernel_rfl) (by kernel_rfl) (fun _ _ _ h => h) (Or.inl ⟨by rfl, ?_⟩) rfl ?_
            rotate_left
            · intro w' hw'; subst hw'; go_simp; try with_reducible rfl
            go_simp
            refine wpAnyH_take (i := 8) (v := ?_) rfl (by kernel_rfl) (by kernel_rfl) (by kernel_rfl) (fun _ _ _ h => h) (Or.inl ⟨by rfl, ?_⟩) rfl ?_
            rotate_left
            · intro w' hw'; subst hw'; go_simp; try with_reducible rfl
            refine wpAnyH_take (i := 9) (v := ?_) rfl (by kernel_rfl) (by kernel_rfl) (by kernel_rfl) (fun _ _ _ h => h) (Or.inl ⟨by rfl, ?_⟩) rfl ?_
            rotate_left
            · intro w' hw'; subst hw'; go_simp; try with_reducible rfl
            refine wpAnyH_take (i := 10) (v := ?_) rfl (by kernel_rfl) (by kernel_rfl) (by kernel_rfl) (fun _ _ _ h => h) (Or.inl ⟨by rfl, ?_⟩) rfl ?_
            rotate_left
            · intro w' hw'; subst hw'; go_simp; try with_reducible rfl
            refine wpAnyH_take (i := 11) (v := ?_) rfl (by kernel_rfl) (by kernel_rfl) (by kernel_rfl) (fun _ _ _ h => h) (Or.inl ⟨by rfl, ?_⟩) rfl ?_
            rotate_left
            · intro w' hw'; subst hw'; go_simp; try with_reducible rfl
            refine wpAnyH_take (i := 12) (v := ?_) rfl (by kernel_rfl) (by kernel_rfl) (by kernel_rfl) (fun _ _ _ h => h) (Or.inl ⟨by rfl, ?_⟩) rfl ?_
            rotate_left
            · intro w' hw'; subst hw'; go_simp; try with_reducible rfl
            go_simp
            refine wpAnyH_take (i := 13) (v := ?_) rfl (by kernel_rfl) (by kernel_rfl) (by kernel_rfl) (fun _ _ _ h => h) (Or.inl ⟨by rfl, ?_⟩) rfl ?_
            rotate_left
            · intro w' hw'; subst hw'; go_simp; try with_reducible rfl
            go_simp
            refine wpAnyH_take (i := 14) (v := ?_) rfl (by kernel_rfl) (by kernel_rfl) (by kernel_rfl) (fun _ _ _ h => h) (Or.inl ⟨by rfl, ?_⟩) rfl ?_
            rotate_left
            · intro w' hw'; subst hw'; go_simp; try with_reducible rfl
            refine wpAnyH_take (i := 15) (v := ?_) rfl (by kernel_rfl) (by kernel_rfl) (by kernel_rfl) (fun _ _ _ h => h) (Or.inl ⟨by rfl, ?_⟩) rfl ?_
            rotate_left
            · intro w' hw'; subst hw'; go_simp; try with_reducible rfl
            refine wpAnyH_take (i := 16) (v := ?_) rfl (by kernel_rfl) (by kernel_rfl) (by kernel_rfl) (fun _ _ _ h => h) (Or.inl ⟨by rfl, ?_⟩) rfl ?_
            rotate_left
            · intro w' hw'; subst hw'; go_simp; try with_reducible rfl
            go_simp
            refine wpAnyH_take (i := 17) (v := ?_) rfl (by kernel_rfl) (by kernel_rfl) (by kernel_rfl) (fun _ _ _ h => h) (Or.inl ⟨by rfl, ?_⟩) rfl ?_
            rotate_left
            · intro w' hw'; subst hw'; go_simp; try with_reducible rfl
            refine wpAnyH_take (i := 18) (v := ?_) rfl (by kernel_rfl) (by kernel_rfl) (by kernel_rfl) (fun _ _ _ h => h) (Or.inl ⟨by rfl, ?_⟩) rfl ?_
            rotate_left
            · intro w' hw'; subst hw'; go_simp; try with_reducible rfl
            go_simp
            refine wpAnyH_take (i := 19) (v := ?_) rfl (by kernel_rfl) (by kernel_rfl) (by kernel_rfl) (fun _ _ _ h => h) (Or.inl ⟨by rfl, ?_⟩) rfl ?_
            rotate_left
            · intro w' hw'; subst hw'; go_simp; try with_reducible rfl
            refine wpAnyH_take (i := 20) (v := ?_) rfl (by kernel_rfl) (by kernel_rfl) (by kernel_rfl) (fun _ _ _ h => h) (Or.inl ⟨by rfl, ?_⟩) rfl ?_
            rotate_left
            · intro w' hw'; subst hw'; go_simp; try with_reducible rfl
            go_simp
            refine wpAnyH_take (i := 21) (v := ?_) rfl (by kernel_rfl) (by kernel_rfl) (by kernel_rfl) (fun _ _ _ h => h) (Or.inl ⟨by rfl, ?_⟩) rfl ?_
            rotate_left
            · intro w' hw'; subst hw'; go_simp; try with_reducible rfl
            go_simp
            refine wpAnyH_take (i := 22) (v := ?_) rfl (by kernel_rfl) (by kernel_rfl) (by kernel_rfl) (fun _ _ _ h => h) (Or.inl ⟨by rfl, ?_⟩) rfl ?_
            rotate_left
            · intro w' hw'; subst hw'; go_simp; try with_reducible rfl
            go_simp
            refine wpAnyH_take (i := 23) (v := ?_) rfl (by kernel_rfl) (by kernel_rfl) (by kernel_rfl) (fun _ _ _ h => h) (Or.inl ⟨by rfl, ?_⟩) rfl ?_
            rotate_left
            · intro w' hw'; subst hw'; go_simp; try with_reducible rfl
            go_simp
            refine wpAnyH_take (i := 24) (v := ?_) rfl (by kernel_rfl) (by kernel_rfl) (by kernel_rfl) (fun _ _ _ h => h) (Or.inl ⟨by rfl, ?_⟩) rfl ?_
            rotate_left
            · intro w' hw'; subst hw'; go_simp; try with_reducible rfl
            refine wpAnyH_done (by kernel_rfl) ?_ _
            go_wp2
            go_roundw
            case rel => exact ⟨i + 1, by omega, by go_num, HL7.out⟩
            case measure => simp [intOf]; omega
          · obtain rfl : i = j := by omega
            go_wp2_with fail
            go_ret
            obtain ⟨_, _, _, _, _, _, hbel, _⟩ := hLL
            exact ⟨rfl, hbel⟩
end Go.Proofs.Qxb6601483aMods
