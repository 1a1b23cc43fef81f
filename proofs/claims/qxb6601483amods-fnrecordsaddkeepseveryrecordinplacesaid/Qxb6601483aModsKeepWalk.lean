/-
  FnRecordsAddKeepsEveryRecordInPlace (5): the walk of the main way.
-/
import Derived.Test.Qxb6601483aModsKeep
namespace Go.Proofs.Qxb6601483aMods
open Go.ChangeShapes Go.WideShapes Go.ChangeAt Go.RowKit

set_option maxHeartbeats 4000000 in
set_option maxRecDepth 100000 in
theorem f5_main (a : Option Addr) (len cap : Nat) (Q : List (List Value × Int × Int)) (w : World) (hQ : ∀ q ∈ Q, RecOk q) (hrow : RecsIn w a len cap (Q.map cellsOf)) (hsm : Q.length ≤ 32768) :
    Calls Trym.prog 5 #[.slice a len cap] w fun e w' => e = .returned (.bool true) ∧ Below w.heap.size w w' := by
  obtain ⟨R, hR⟩ : ∃ R, R = Q.map cellsOf := ⟨_, rfl⟩
  have hRl : R.length = Q.length := by rw [hR]; simp
  rw [← hR] at hrow
  obtain ⟨n, hn⟩ : ∃ n, n = R.length := ⟨_, rfl⟩
  have hlen := hrow.1
  rw [← hn] at hlen
  subst hlen
  have hR22 := hrow.2.1
  have hn2 : len ≤ 32768 := by omega
  have ht1 : decide ((32768 : Int) < (len : Int)) = false := by simp; omega
  have hn2i : (len : Int) ≤ 32768 := by omega
  have HR : Hid (R = Q.map cellsOf ∧ R.length = Q.length ∧ len = R.length ∧ (∀ q ∈ Q, RecOk q) ∧ ∀ r ∈ R, r.length = 22) := ⟨hR, hRl, hn, hQ, hR22⟩
  have HROW : Hid (RecsIn w a len cap R) := hrow
  clear hR hRl hn hQ hR22 hrow hsm
  go_enter Trym.func5, Trym.ntmps5
  go_wp2_with fail
  refine (f12_any a len cap _ (by omega)).mono ?_
  rintro e w' ⟨⟨b, rfl⟩, rfl⟩
  cases b with
  | false =>
    go_wp2
    go_ret
    exact ⟨rfl, Below.refl _ _⟩
  | true =>
    go_wp2_with fail
    refine (f13_any a len cap R _ HROW.out (by have := HR.out.2.2.1; omega)).mono ?_
    rintro e w1 ⟨a1, cap1, rfl, own1, bel1⟩
    rw [← HR.out.2.2.1] at own1 ⊢
    go_wp2_with fail
    have hT : ∃ T : Nat → Prop, T = (fun k => w1.heap.size ≤ k) := ⟨_, rfl⟩
    obtain ⟨T, hTe⟩ := hT
    have hll0 := lk_start (R := R) bel1 own1
    rw [← hTe] at hll0
    obtain ⟨br, hbr⟩ : ∃ br, br = w1.heap.size := ⟨_, rfl⟩
    rw [← hbr] at hll0 hTe ⊢
    have hTa : ∀ k, (Value.slice a1 len cap1).ownBlock = some k → ¬ T k := fun k hk => by have := (own1.lt k hk).2; rw [hTe]; omega
    have hTw : ∀ k, k < w.heap.size → ¬ T k := fun k hk => by have := bel1.size; rw [hTe]; omega
    clear hTe own1 bel1 hbr
    go_loopw [4] (fun jv wr => ∃ j : Nat, j ≤ len ∧ jv = .int .i64 j ∧ LK T w wr br R len (.slice a1 len cap1) j)
      (fun i _ => len - (intOf i).toNat)
    case atStart => exact ⟨0, Nat.zero_le _, rfl, hll0⟩
    case round =>
      clear hll0
      obtain ⟨j, hj, rfl, hLL⟩ := hrel
      by_cases hlt : j < len
      · obtain ⟨bv, SV, hst, ho2, hbel, hnew⟩ := hLL
        obtain ⟨ga, cg, hv⟩ := owns_shape ho2 (by omega)
        cases hv
        have hjQ : j < Q.length := by have := HR.out.2.1; have := HR.out.2.2.1; omega
        have hjR : j < R.length := by have := HR.out.2.2.1; omega
        have hqok : RecOk Q[j] := HR.out.2.2.2.1 _ (List.getElem_mem hjQ)
        have hqr := q_range HR.out.1 HR.out.2.2.2.2 ho2 j hjQ
        have hRj : R[j] = cellsOf Q[j] := by have := HR.out.1; subst this; simp
        obtain ⟨q, hq⟩ : ∃ q, q = Q[j] := ⟨_, rfl⟩
        rw [← hq] at hqok hqr hRj
        obtain ⟨ids, c, d⟩ := q
        have hids : ids.length = 20 := hqok.1
        have hone := hqok.one
        obtain ⟨z1, z2, z3⟩ := q_parts hqok hqr
        simp only at z1 z2 z3 hone
        have hji : (j : Int) < (len : Int) := by omega
        have hi38 : (Trym.prog.info? 38).map (·.size) = some ids.length := by rw [hids]; exact size38
        have hnTa : ¬ T ga := hTa ga rfl
        have HRJ : Hid (R[j] = ids ++ [.int .u32 c, .int .i64 d]) := hRj
        have HST : Hid (StN T wr br (R.take j) (nbOf j) bv SV) := hst
        have HNW : Hid (∀ k, wr.heap.size ≤ k → T k) := hnew
        clear hq hRj hst hnew
        go_wp2_with fail
        have hS0 : (fun w' : World => w'.rangeAt ga (j * 22) ids ∧ w'.cell? ⟨ga, j * 22 + 20, none⟩ = some (.int .u32 c) ∧ w'.cell? ⟨ga, j * 22 + 21, none⟩ = some (.int .i64 d)) (wr.drew) := ⟨z1, z2, z3⟩
        refine wp_region_held (S := (fun w' : World => w'.rangeAt ga (j * 22) ids ∧ w'.cell? ⟨ga, j * 22 + 20, none⟩ = some (.int .u32 c) ∧ w'.cell? ⟨ga, j * 22 + 21, none⟩ = some (.int .i64 d))) (by kernel_rfl) ?_
        change wpAnyH _ _ _ _ _ _ _ _ (World.drew _)
        refine wpAnyH_take (i := 0) (v := ?_) rfl (by kernel_rfl) (by kernel_rfl) (by kernel_rfl) (fun _ _ _ h => h) (Or.inl ⟨by rfl, ?_⟩) hS0 ?_
        rotate_left
        · intro w' hw'; have q1 := hw'.2.1; have q2 := hw'.2.2; go_simp; try with_reducible rfl
        refine wpAnyH_take (i := 1) (v := ?_) rfl (by kernel_rfl) (by kernel_rfl) (by kernel_rfl) (fun _ _ _ h => h) (Or.inl ⟨by rfl, ?_⟩) hS0 ?_
        rotate_left
        · intro w' hw'; have q1 := hw'.2.1; have q2 := hw'.2.2; go_simp; try with_reducible rfl
        refine wpAnyH_take (i := 2) (v := ?_) rfl (by kernel_rfl) (by kernel_rfl) (by kernel_rfl) (fun _ _ _ h => h) (Or.inl ⟨by rfl, ?_⟩) hS0 ?_
        rotate_left
        · intro w' hw'; have q1 := hw'.2.1; have q2 := hw'.2.2; go_simp; try with_reducible rfl
        refine wpAnyH_take (i := 3) (v := ?_) rfl (by kernel_rfl) (by kernel_rfl) (by kernel_rfl) (fun _ _ _ h => h) (Or.inl ⟨by rfl, ?_⟩) hS0 ?_
        rotate_left
        · intro w' hw'; have q1 := hw'.2.1; have q2 := hw'.2.2; go_simp; try with_reducible rfl
        refine wpAnyH_take (i := 4) (v := .agg ids.toArray) rfl (by kernel_rfl) (by kernel_rfl) (by kernel_rfl) (fun _ _ _ h => h) (yieldsIf_load_mid rfl 38 (.tmp 33) rfl ga (j * 22) ?_ ids _ (fun _ h => h.1) Trym.underlying38 rfl hi38) hS0 ?_
        · simp [Act.eval, Act.put]
        refine wpAnyH_take (i := 5) (v := ?_) rfl (by kernel_rfl) (by kernel_rfl) (by kernel_rfl) (fun _ _ _ h => h) (Or.inl ⟨by rfl, ?_⟩) hS0 ?_
        rotate_left
        · intro w' hw'; have q1 := hw'.2.1; have q2 := hw'.2.2; go_simp; try with_reducible rfl
        refine wpAnyH_take (i := 6) (v := ?_) rfl (by kernel_rfl) (by kernel_rfl) (by kernel_rfl) (fun _ _ _ h => h) (Or.inl ⟨by rfl, ?_⟩) hS0 ?_
        rotate_left
        · intro w' hw'; have q1 := hw'.2.1; have q2 := hw'.2.2; go_simp; try with_reducible rfl
        refine wpAnyH_take (i := 7) (v := ?_) rfl (by kernel_rfl) (by kernel_rfl) (by kernel_rfl) (fun _ _ _ h => h) (Or.inl ⟨by rfl, ?_⟩) hS0 ?_
        rotate_left
        · intro w' hw'; have q1 := hw'.2.1; have q2 := hw'.2.2; go_simp; try with_reducible rfl
        refine wpAnyH_take (i := 8) (v := ?_) rfl (by kernel_rfl) (by kernel_rfl) (by kernel_rfl) (fun _ _ _ h => h) (Or.inl ⟨by rfl, ?_⟩) hS0 ?_
        rotate_left
        · intro w' hw'; have q1 := hw'.2.1; have q2 := hw'.2.2; go_simp; try with_reducible rfl
        refine wpAnyH_take (i := 9) (v := ?_) rfl (by kernel_rfl) (by kernel_rfl) (by kernel_rfl) (fun _ _ _ h => h) (Or.inl ⟨by rfl, ?_⟩) hS0 ?_
        rotate_left
        · intro w' hw'; have q1 := hw'.2.1; have q2 := hw'.2.2; go_simp; try with_reducible rfl
        refine wpAnyH_take (i := 10) (v := ?_) rfl (by kernel_rfl) (by kernel_rfl) (by kernel_rfl) (fun _ _ _ h => h) (Or.inl ⟨by rfl, ?_⟩) hS0 ?_
        rotate_left
        · intro w' hw'; have q1 := hw'.2.1; have q2 := hw'.2.2; go_simp; try with_reducible rfl
        refine wpAnyH_take (i := 11) (v := ?_) rfl (by kernel_rfl) (by kernel_rfl) (by kernel_rfl) (fun _ _ _ h => h) (Or.inl ⟨by rfl, ?_⟩) hS0 ?_
        rotate_left
        · intro w' hw'; have q1 := hw'.2.1; have q2 := hw'.2.2; go_simp; try with_reducible rfl
        refine wpAnyH_take (i := 12) (v := ?_) rfl (by kernel_rfl) (by kernel_rfl) (by kernel_rfl) (fun _ _ _ h => h) (Or.inl ⟨by rfl, ?_⟩) hS0 ?_
        rotate_left
        · intro w' hw'; have q1 := hw'.2.1; have q2 := hw'.2.2; go_simp; try with_reducible rfl
        refine wpAnyH_take (i := 13) (v := ?_) rfl (by kernel_rfl) (by kernel_rfl) (by kernel_rfl) (fun _ _ _ h => h) (Or.inl ⟨by rfl, ?_⟩) hS0 ?_
        rotate_left
        · intro w' hw'; have q1 := hw'.2.1; have q2 := hw'.2.2; go_simp; try with_reducible rfl
        refine wpAnyH_take (i := 14) (v := ?_) rfl (by kernel_rfl) (by kernel_rfl) (by kernel_rfl) (fun _ _ _ h => h) (Or.inl ⟨by rfl, ?_⟩) hS0 ?_
        rotate_left
        · intro w' hw'; have q1 := hw'.2.1; have q2 := hw'.2.2; go_simp; try with_reducible rfl
        go_simp
        refine held_one (i := 15) rfl (by kernel_rfl) rfl ?_
        go_simp
        have hstd : StN T wr.drew br (R.take j) (nbOf j) bv SV := HST.out.grew ((Grew.refl wr (fun _ => False)).drew) id (fun _ _ h => h) (fun _ _ _ _ h => h)
        have htl : (R.take j).length = j := by simp; omega
        have H14 := f14_any br (nbOf j) T (R.take j) bv SV ids c d wr.drew hstd (by rw [htl]) (by rw [htl]; omega) (fun k hk => HNW.out k hk) hids hone
        refine H14.mono ?_
        clear H14
        rintro e w3 ⟨rfl, bv', SV', s1, s2, s3⟩
        have s2' : Grew wr w3 T := ((Grew.refl wr T).drew).trans s2
        have hLL1 : LK T w w3 br R len (.slice (some ⟨ga, 0, none⟩) len cap1) (j + 1) :=
          LK.add hjR ho2 hbel HNW.out hTa hTw (by rw [HRJ.out]; exact s1) s2'
        have r3 := range_grew hqr s2' hnTa
        refine ⟨q_parts hqok r3, ?_⟩
        clear hstd s1 s2 s3 s2' r3 hS0 z1 z2 z3 hqr ho2 hbel HST HNW hids hone hi38 hqok HRJ
        refine wpAnyH_done (by kernel_rfl) ?_ _
        go_wp2_with fail
        go_roundw
        case rel => exact ⟨j + 1, by omega, by go_num, hLL1⟩
        case measure => simp [intOf]; omega
      · obtain rfl : j = len := by omega
        have hjR : j = R.length := HR.out.2.2.1
        have htl : R.take j = R := by rw [hjR]; simp
        have hLLk := hLL
        obtain ⟨bv, SV, hst, ho2, hbel, hnew⟩ := hLL
        rw [htl] at hst
        have H15 := f15_any br T R (nbOf j) bv SV wr hst
        have H16 := f16_any br T R (nbOf j) bv SV wr hst
        rw [← hjR] at H15
        have HC15 : Hid (Calls Trym.prog 15 #[.pointer (some ⟨br, 0, none⟩)] wr fun e w' => e = .returned (.int .i64 j) ∧ wr = w') := H15
        have HC16 : Hid (Calls Trym.prog 16 #[.pointer (some ⟨br, 0, none⟩)] wr fun e w' => e = .returned (.int .i64 (nbOf j)) ∧ wr = w') := H16
        have HC17 : Hid (∀ b, b < nbOf j → Calls Trym.prog 17 #[.pointer (some ⟨br, 0, none⟩), .int .i64 b] wr fun e w' => e = .returned (.int .i64 (lenAt j b)) ∧ wr = w') := fun b hb => by
          have := f17_any br b T R (nbOf j) bv SV wr hst (by rw [hjR]) hb (by omega)
          rw [← hjR] at this
          exact this
        have HL : Hid (LK T w wr br R j (.slice a1 j cap1) j) := hLLk
        clear hst ho2 hbel hnew H15 H16 hLLk htl hjR
        go_wp2_with fail
        refine Calls.mono HC15.out ?_
        rintro e w' ⟨rfl, rfl⟩
        go_wp2_with fail
        have e6 : ((j : Int) + 4096 - 1) / 4096 = ((nbOf j : Nat) : Int) := by unfold nbOf; omega
        rw [e6]
        clear e6
        refine Calls.mono HC16.out ?_
        rintro e w' ⟨rfl, rfl⟩
        obtain ⟨nb, hnb⟩ : ∃ nb, nb = nbOf j := ⟨_, rfl⟩
        have hnb9 : nb ≤ 10 := by rw [hnb]; unfold nbOf; omega
        rw [← hnb] at HC17 ⊢
        have HNB : Hid (nb = nbOf j) := hnb
        clear hnb HC15 HC16
        go_wp2_with fail
        go_loop [7] (fun bv => ∃ b : Nat, b ≤ nb ∧ bv = .int .i64 b) (fun b => nb - (intOf b).toNat)
        case atStart => exact ⟨0, Nat.zero_le _, rfl⟩
        case round =>
          obtain ⟨b, hb, rfl⟩ := hrel
          by_cases hbl : b < nb
          · have H17 := HC17.out b hbl
            have hbj : 4096 * b < j := by have := HNB.out; unfold nbOf at this; omega
            by_cases hw4 : (4096 : Int) < (j : Int) - (b : Int) * 4096
            · have e7 : lenAt j b = 4096 := by unfold lenAt; omega
              rw [e7] at H17
              have HC : Hid (Calls Trym.prog 17 #[.pointer (some ⟨br, 0, none⟩), .int .i64 b] wr fun e w' => e = .returned (.int .i64 ((4096 : Nat) : Int)) ∧ wr = w') := H17
              clear e7 H17
              go_wp2_with fail
              refine Calls.mono HC.out ?_
              rintro e w' ⟨rfl, rfl⟩
              clear HC
              go_wp2_with fail
              go_round
              case rel => exact ⟨b + 1, by omega, by go_num⟩
              case measure => simp [intOf]; omega
            · have e7 : ((lenAt j b : Nat) : Int) = (j : Int) - (b : Int) * 4096 := by unfold lenAt; omega
              rw [e7] at H17
              have HC : Hid (Calls Trym.prog 17 #[.pointer (some ⟨br, 0, none⟩), .int .i64 b] wr fun e w' => e = .returned (.int .i64 ((j : Int) - (b : Int) * 4096)) ∧ wr = w') := H17
              clear e7 H17
              go_wp2_with fail
              refine Calls.mono HC.out ?_
              rintro e w' ⟨rfl, rfl⟩
              clear HC
              go_wp2_with fail
              go_round
              case rel => exact ⟨b + 1, by omega, by go_num⟩
              case measure => simp [intOf]; omega
          · obtain rfl : b = nb := by omega
            clear HC17
            go_wp2_with fail
            go_loopw [9] (fun iv wr => ∃ i : Nat, i ≤ j ∧ iv = .int .i64 i ∧ LK T w wr br R j (.slice a1 j cap1) j)
              (fun i _ => j - (intOf i).toNat)
            case atStart => exact ⟨0, Nat.zero_le _, rfl, HL.out⟩
            case round =>
            clear HL
            obtain ⟨i, hi, rfl, hLL⟩ := hrel
            by_cases hlt2 : i < j
            · have hLLk := hLL
              obtain ⟨bv, SV, hst, ho2, hbel, hnew⟩ := hLL
              obtain ⟨ga, cg, hv⟩ := owns_shape ho2 (by omega)
              cases hv
              have hjR : j = R.length := HR.out.2.2.1
              have htl : R.take j = R := by rw [hjR]; simp
              rw [htl] at hst
              have hiR : i < R.length := by omega
              have hiQ : i < Q.length := by have := HR.out.2.1; omega
              have hqok : RecOk Q[i] := HR.out.2.2.2.1 _ (List.getElem_mem hiQ)
              have hqr := q_range HR.out.1 HR.out.2.2.2.2 ho2 i hiQ
              have hRi : R[i] = cellsOf Q[i] := by have := HR.out.1; subst this; simp
              obtain ⟨q, hq⟩ : ∃ q, q = Q[i] := ⟨_, rfl⟩
              rw [← hq] at hqok hqr hRi
              obtain ⟨ids, c, d⟩ := q
              have hids : ids.length = 20 := hqok.1
              have hone := hqok.one
              simp only at hone
              have hneq2 := neq38 ids hids hqok.2
              have hi38 : (Trym.prog.info? 38).map (·.size) = some ids.length := by rw [hids]; exact size38
              have hi38' : (Trym.prog.info? 38).map (·.size) = some ids.toArray.size := by simpa using hi38
              have hall := all_oneCell_toArray hone
              have hii : (i : Int) < (j : Int) := by omega
              have H18 := f18_any br i T R (nbOf j) bv SV ids c d wr hst (by rw [hjR]) hiR (by omega) HR.out.2.2.2.2 hRi hids hone
              have HC18 : Hid (Calls Trym.prog 18 #[.pointer (some ⟨br, 0, none⟩), .int .i64 ((i : Int) / 4096), .int .i64 ((i : Int) % 4096)] wr fun e w' => e = .returned (.tuple #[.agg ids.toArray, .int .u32 c, .int .i64 d]) ∧ Below wr.heap.size wr w') := H18
              have HRI : Hid (R[i] = ids ++ [.int .u32 c, .int .i64 d] ∧ j = R.length ∧ R.take j = R ∧ i < R.length) := ⟨hRi, hjR, htl, hiR⟩
              have HLK : Hid (LK T w wr br R j (.slice (some ⟨ga, 0, none⟩) j cap1) j) := hLLk
              clear hq hRi htl hst ho2 hbel hnew H18 hLLk hjR
              go_wp2_with fail
              refine Calls.mono HC18.out ?_
              rintro e w5 ⟨rfl, b5⟩
              clear HC18
              have hth : (w5.alloc (.cells #[.int .u8 0, .int .u8 0, .int .u8 0, .int .u8 0, .int .u8 0, .int .u8 0, .int .u8 0, .int .u8 0, .int .u8 0, .int .u8 0, .int .u8 0, .int .u8 0, .int .u8 0, .int .u8 0, .int .u8 0, .int .u8 0, .int .u8 0, .int .u8 0, .int .u8 0, .int .u8 0] 38)).there w5.heap.size 0 ids.toArray.size := by
                have h := there_new (w := w5) (Z := #[.int .u8 0, .int .u8 0, .int .u8 0, .int .u8 0, .int .u8 0, .int .u8 0, .int .u8 0, .int .u8 0, .int .u8 0, .int .u8 0, .int .u8 0, .int .u8 0, .int .u8 0, .int .u8 0, .int .u8 0, .int .u8 0, .int .u8 0, .int .u8 0, .int .u8 0, .int .u8 0]) (t := 38)
                simpa [hids] using h
              go_wp2_with (refine wpList_store_mid rfl 38 (.tmp 10) (.tmp 84) rfl w5.heap.size 0 ids.toArray rfl rfl hth hi38' hall ?_)
              have hbz : Below wr.heap.size wr ((w5.alloc (.cells #[.int .u8 0, .int .u8 0, .int .u8 0, .int .u8 0, .int .u8 0, .int .u8 0, .int .u8 0, .int .u8 0, .int .u8 0, .int .u8 0, .int .u8 0, .int .u8 0, .int .u8 0, .int .u8 0, .int .u8 0, .int .u8 0, .int .u8 0, .int .u8 0, .int .u8 0, .int .u8 0] 38)).setCells w5.heap.size 0 ids) :=
                below_setCells b5.size ids 0 _ (Below.alloc (a := wr) b5 b5.size _)
              have hk1 : ((w5.alloc (.cells #[.int .u8 0, .int .u8 0, .int .u8 0, .int .u8 0, .int .u8 0, .int .u8 0, .int .u8 0, .int .u8 0, .int .u8 0, .int .u8 0, .int .u8 0, .int .u8 0, .int .u8 0, .int .u8 0, .int .u8 0, .int .u8 0, .int .u8 0, .int .u8 0, .int .u8 0, .int .u8 0] 38)).setCells w5.heap.size 0 ids).rangeAt w5.heap.size 0 ids := World.rangeAt_setCells_same _ _ _ _ (by simpa using hth)
              obtain ⟨W6, hW6⟩ : ∃ W6, W6 = (w5.alloc (.cells #[.int .u8 0, .int .u8 0, .int .u8 0, .int .u8 0, .int .u8 0, .int .u8 0, .int .u8 0, .int .u8 0, .int .u8 0, .int .u8 0, .int .u8 0, .int .u8 0, .int .u8 0, .int .u8 0, .int .u8 0, .int .u8 0, .int .u8 0, .int .u8 0, .int .u8 0, .int .u8 0] 38)).setCells w5.heap.size 0 ids := ⟨_, rfl⟩
              rw [← hW6] at hbz hk1 ⊢
              clear hW6 hth
              have hqr6 := range_grew hqr (Grew.of_below hbz) (Nat.not_le.2 (World.block_lt_of_cell? wr _ (q_parts hqok hqr).2.1))
              have hLL6 := (HLK.out.keep hbz).keep ((Below.refl W6.heap.size W6).drew)
              obtain ⟨k2, k3, k4⟩ := q_parts hqok hqr6
              simp only at k2 k3 k4
              have k1 : (W6.drew).rangeAt w5.heap.size 0 ids := hk1
              clear hqr hk1 hbz b5
              have hqr : W6.drew.rangeAt ga (i * 22) (cellsOf (ids, c, d)) := hqr6
              have HL6 : Hid (LK T w W6.drew br R j (.slice (some ⟨ga, 0, none⟩) j cap1) j) := hLL6
              clear hqr6 hLL6
              refine wp_region_held (S := fun w' : World => w' = W6.drew) (by kernel_rfl) ?_
              change wpAnyH _ _ _ _ _ _ _ _ (World.drew _)
              refine wpAnyH_take (i := 0) (v := .agg ids.toArray) rfl (by kernel_rfl) (by kernel_rfl) (by kernel_rfl) (fun _ _ _ h => h) (yieldsIf_load_mid rfl 38 (.tmp 10) rfl w5.heap.size 0 ?_ ids _ (fun _ h => h ▸ k1) Trym.underlying38 rfl hi38) rfl ?_
              · simp [Act.eval]
              refine wpAnyH_take (i := 1) (v := ?_) rfl (by kernel_rfl) (by kernel_rfl) (by kernel_rfl) (fun _ _ _ h => h) (Or.inl ⟨by rfl, ?_⟩) rfl ?_
              rotate_left
              · intro w' hw'; subst hw'; go_simp; try with_reducible rfl
              refine wpAnyH_take (i := 2) (v := ?_) rfl (by kernel_rfl) (by kernel_rfl) (by kernel_rfl) (fun _ _ _ h => h) (Or.inl ⟨by rfl, ?_⟩) rfl ?_
              rotate_left
              · intro w' hw'; subst hw'; go_simp; try with_reducible rfl
              refine wpAnyH_take (i := 3) (v := ?_) rfl (by kernel_rfl) (by kernel_rfl) (by kernel_rfl) (fun _ _ _ h => h) (Or.inl ⟨by rfl, ?_⟩) rfl ?_
              rotate_left
              · intro w' hw'; subst hw'; go_simp; try with_reducible rfl
              refine wpAnyH_take (i := 4) (v := ?_) rfl (by kernel_rfl) (by kernel_rfl) (by kernel_rfl) (fun _ _ _ h => h) (Or.inl ⟨by rfl, ?_⟩) rfl ?_
              rotate_left
              · intro w' hw'; subst hw'; go_simp; try with_reducible rfl
              refine wpAnyH_take (i := 5) (v := .agg ids.toArray) rfl (by kernel_rfl) (by kernel_rfl) (by kernel_rfl) (fun _ _ _ h => h) (yieldsIf_load_mid rfl 38 (.tmp 91) rfl ga (i * 22) ?_ ids _ (fun _ h => h ▸ k2) Trym.underlying38 rfl hi38) rfl ?_
              · simp [Act.eval, Act.put]
              refine wpAnyH_take (i := 6) (v := ?_) rfl (by kernel_rfl) (by kernel_rfl) (by kernel_rfl) (fun _ _ _ h => h) (Or.inl ⟨by rfl, ?_⟩) rfl ?_
              rotate_left
              · intro w' hw'; subst hw'; go_simp; try with_reducible rfl
              refine wpAnyH_take (i := 7) (v := ?_) rfl (by kernel_rfl) (by kernel_rfl) (by kernel_rfl) (fun _ _ _ h => h) (Or.inl ⟨by rfl, ?_⟩) rfl ?_
              rotate_left
              · intro w' hw'; subst hw'; go_simp; try with_reducible rfl
              go_simp
              refine wpAnyH_take (i := 8) (v := ?_) rfl (by kernel_rfl) (by kernel_rfl) (by kernel_rfl) (fun _ _ _ h => h) (Or.inl ⟨by rfl, ?_⟩) rfl ?_
              rotate_left
              · intro w' hw'; subst hw'; go_simp; try with_reducible rfl
              refine wpAnyH_take (i := 9) (v := ?_) rfl (by kernel_rfl) (by kernel_rfl) (by kernel_rfl) (fun _ _ _ h => h) (Or.inl ⟨by rfl, ?_⟩) rfl ?_
              rotate_left
              · intro w' hw'; subst hw'; go_simp; try with_reducible rfl
              refine wpAnyH_take (i := 10) (v := ?_) rfl (by kernel_rfl) (by kernel_rfl) (by kernel_rfl) (fun _ _ _ h => h) (Or.inl ⟨by rfl, ?_⟩) rfl ?_
              rotate_left
              · intro w' hw'; subst hw'; go_simp; try with_reducible rfl
              refine wpAnyH_take (i := 11) (v := ?_) rfl (by kernel_rfl) (by kernel_rfl) (by kernel_rfl) (fun _ _ _ h => h) (Or.inl ⟨by rfl, ?_⟩) rfl ?_
              rotate_left
              · intro w' hw'; subst hw'; go_simp; try with_reducible rfl
              refine wpAnyH_take (i := 12) (v := ?_) rfl (by kernel_rfl) (by kernel_rfl) (by kernel_rfl) (fun _ _ _ h => h) (Or.inl ⟨by rfl, ?_⟩) rfl ?_
              rotate_left
              · intro w' hw'; subst hw'; go_simp; try with_reducible rfl
              go_simp
              refine wpAnyH_take (i := 13) (v := ?_) rfl (by kernel_rfl) (by kernel_rfl) (by kernel_rfl) (fun _ _ _ h => h) (Or.inl ⟨by rfl, ?_⟩) rfl ?_
              rotate_left
              · intro w' hw'; subst hw'; go_simp; try with_reducible rfl
              go_simp
              refine wpAnyH_take (i := 14) (v := ?_) rfl (by kernel_rfl) (by kernel_rfl) (by kernel_rfl) (fun _ _ _ h => h) (Or.inl ⟨by rfl, ?_⟩) rfl ?_
              rotate_left
              · intro w' hw'; subst hw'; go_simp; try with_reducible rfl
              refine wpAnyH_take (i := 15) (v := ?_) rfl (by kernel_rfl) (by kernel_rfl) (by kernel_rfl) (fun _ _ _ h => h) (Or.inl ⟨by rfl, ?_⟩) rfl ?_
              rotate_left
              · intro w' hw'; subst hw'; go_simp; try with_reducible rfl
              refine wpAnyH_take (i := 16) (v := ?_) rfl (by kernel_rfl) (by kernel_rfl) (by kernel_rfl) (fun _ _ _ h => h) (Or.inl ⟨by rfl, ?_⟩) rfl ?_
              rotate_left
              · intro w' hw'; subst hw'; go_simp; try with_reducible rfl
              go_simp
              refine wpAnyH_take (i := 17) (v := ?_) rfl (by kernel_rfl) (by kernel_rfl) (by kernel_rfl) (fun _ _ _ h => h) (Or.inl ⟨by rfl, ?_⟩) rfl ?_
              rotate_left
              · intro w' hw'; subst hw'; go_simp; try with_reducible rfl
              refine wpAnyH_take (i := 18) (v := ?_) rfl (by kernel_rfl) (by kernel_rfl) (by kernel_rfl) (fun _ _ _ h => h) (Or.inl ⟨by rfl, ?_⟩) rfl ?_
              rotate_left
              · intro w' hw'; subst hw'; go_simp; try with_reducible rfl
              go_simp
              refine wpAnyH_take (i := 19) (v := ?_) rfl (by kernel_rfl) (by kernel_rfl) (by kernel_rfl) (fun _ _ _ h => h) (Or.inl ⟨by rfl, ?_⟩) rfl ?_
              rotate_left
              · intro w' hw'; subst hw'; go_simp; try with_reducible rfl
              refine wpAnyH_take (i := 20) (v := ?_) rfl (by kernel_rfl) (by kernel_rfl) (by kernel_rfl) (fun _ _ _ h => h) (Or.inl ⟨by rfl, ?_⟩) rfl ?_
              rotate_left
              · intro w' hw'; subst hw'; go_simp; try with_reducible rfl
              go_simp
              refine wpAnyH_take (i := 21) (v := ?_) rfl (by kernel_rfl) (by kernel_rfl) (by kernel_rfl) (fun _ _ _ h => h) (Or.inl ⟨by rfl, ?_⟩) rfl ?_
              rotate_left
              · intro w' hw'; subst hw'; go_simp; try with_reducible rfl
              go_simp
              refine wpAnyH_take (i := 22) (v := ?_) rfl (by kernel_rfl) (by kernel_rfl) (by kernel_rfl) (fun _ _ _ h => h) (Or.inl ⟨by rfl, ?_⟩) rfl ?_
              rotate_left
              · intro w' hw'; subst hw'; go_simp; try with_reducible rfl
              go_simp
              refine wpAnyH_take (i := 23) (v := ?_) rfl (by kernel_rfl) (by kernel_rfl) (by kernel_rfl) (fun _ _ _ h => h) (Or.inl ⟨by rfl, ?_⟩) rfl ?_
              rotate_left
              · intro w' hw'; subst hw'; go_simp; try with_reducible rfl
              go_simp
              refine wpAnyH_take (i := 24) (v := ?_) rfl (by kernel_rfl) (by kernel_rfl) (by kernel_rfl) (fun _ _ _ h => h) (Or.inl ⟨by rfl, ?_⟩) rfl ?_
              rotate_left
              · intro w' hw'; subst hw'; go_simp; try with_reducible rfl
              refine wpAnyH_done (by kernel_rfl) ?_ _
              clear k1 k2 k3 k4
              go_wp2_with fail
              have hLLk := HL6.out
              obtain ⟨bv2, SV2, hst2, ho2, hbel, hnew⟩ := hLLk
              rw [HRI.out.2.2.1] at hst2
              refine (f20_any br i T R (nbOf j) bv2 SV2 W6.drew hst2 (by rw [HRI.out.2.1]) HRI.out.2.2.2 (by have := HRI.out.2.1; omega)).mono ?_
              rintro e w7 ⟨g, rfl, hg1, rfl⟩
              have hpr := rec_range HR.out.2.2.2.2 hst2 (by rw [HRI.out.2.1]) HRI.out.2.2.2 hg1
              rw [HRI.out.1] at hpr
              have H19 := f19_any g (i % 4096 * 22) ids c d W6.drew hids hone hpr
              have HC19 : Hid (Calls Trym.prog 19 #[.pointer (some ⟨g, i % 4096 * 22, none⟩)] W6.drew fun e w' => e = .returned (.tuple #[.agg ids.toArray, .int .u32 c, .int .i64 d]) ∧ Below W6.drew.heap.size W6.drew w') := H19
              clear H19 hst2 ho2 hbel hnew hpr hg1
              go_wp2_with fail
              refine Calls.mono HC19.out ?_
              rintro e w8 ⟨rfl, b5⟩
              clear HC19
              have hth : (w8.alloc (.cells #[.int .u8 0, .int .u8 0, .int .u8 0, .int .u8 0, .int .u8 0, .int .u8 0, .int .u8 0, .int .u8 0, .int .u8 0, .int .u8 0, .int .u8 0, .int .u8 0, .int .u8 0, .int .u8 0, .int .u8 0, .int .u8 0, .int .u8 0, .int .u8 0, .int .u8 0, .int .u8 0] 38)).there w8.heap.size 0 ids.toArray.size := by
                have h := there_new (w := w8) (Z := #[.int .u8 0, .int .u8 0, .int .u8 0, .int .u8 0, .int .u8 0, .int .u8 0, .int .u8 0, .int .u8 0, .int .u8 0, .int .u8 0, .int .u8 0, .int .u8 0, .int .u8 0, .int .u8 0, .int .u8 0, .int .u8 0, .int .u8 0, .int .u8 0, .int .u8 0, .int .u8 0]) (t := 38)
                simpa [hids] using h
              go_wp2_with (refine wpList_store_mid rfl 38 (.tmp 13) (.tmp 116) rfl w8.heap.size 0 ids.toArray rfl rfl hth hi38' hall ?_)
              have hbz : Below W6.drew.heap.size W6.drew ((w8.alloc (.cells #[.int .u8 0, .int .u8 0, .int .u8 0, .int .u8 0, .int .u8 0, .int .u8 0, .int .u8 0, .int .u8 0, .int .u8 0, .int .u8 0, .int .u8 0, .int .u8 0, .int .u8 0, .int .u8 0, .int .u8 0, .int .u8 0, .int .u8 0, .int .u8 0, .int .u8 0, .int .u8 0] 38)).setCells w8.heap.size 0 ids) :=
                below_setCells b5.size ids 0 _ (Below.alloc (a := W6.drew) b5 b5.size _)
              have hk1 : ((w8.alloc (.cells #[.int .u8 0, .int .u8 0, .int .u8 0, .int .u8 0, .int .u8 0, .int .u8 0, .int .u8 0, .int .u8 0, .int .u8 0, .int .u8 0, .int .u8 0, .int .u8 0, .int .u8 0, .int .u8 0, .int .u8 0, .int .u8 0, .int .u8 0, .int .u8 0, .int .u8 0, .int .u8 0] 38)).setCells w8.heap.size 0 ids).rangeAt w8.heap.size 0 ids := World.rangeAt_setCells_same _ _ _ _ (by simpa using hth)
              obtain ⟨W9, hW6⟩ : ∃ W9, W9 = (w8.alloc (.cells #[.int .u8 0, .int .u8 0, .int .u8 0, .int .u8 0, .int .u8 0, .int .u8 0, .int .u8 0, .int .u8 0, .int .u8 0, .int .u8 0, .int .u8 0, .int .u8 0, .int .u8 0, .int .u8 0, .int .u8 0, .int .u8 0, .int .u8 0, .int .u8 0, .int .u8 0, .int .u8 0] 38)).setCells w8.heap.size 0 ids := ⟨_, rfl⟩
              rw [← hW6] at hbz hk1 ⊢
              clear hW6 hth
              have hqr6 := range_grew hqr (Grew.of_below hbz) (Nat.not_le.2 (World.block_lt_of_cell? W6.drew _ (q_parts hqok hqr).2.1))
              have hLL6 := (HL6.out.keep hbz).keep ((Below.refl W9.heap.size W9).drew)
              obtain ⟨k2, k3, k4⟩ := q_parts hqok hqr6
              simp only at k2 k3 k4
              have k1 : (W9.drew).rangeAt w8.heap.size 0 ids := hk1
              clear hqr hk1 hbz b5
              have hqr : W9.drew.rangeAt ga (i * 22) (cellsOf (ids, c, d)) := hqr6
              have HL9 : Hid (LK T w W9.drew br R j (.slice (some ⟨ga, 0, none⟩) j cap1) j) := hLL6
              clear hqr6 hLL6
              refine wp_region_held (S := fun w' : World => w' = W9.drew) (by kernel_rfl) ?_
              change wpAnyH _ _ _ _ _ _ _ _ (World.drew _)
              refine wpAnyH_take (i := 0) (v := .agg ids.toArray) rfl (by kernel_rfl) (by kernel_rfl) (by kernel_rfl) (fun _ _ _ h => h) (yieldsIf_load_mid rfl 38 (.tmp 13) rfl w8.heap.size 0 ?_ ids _ (fun _ h => h ▸ k1) Trym.underlying38 rfl hi38) rfl ?_
              · simp [Act.eval]
              refine wpAnyH_take (i := 1) (v := ?_) rfl (by kernel_rfl) (by kernel_rfl) (by kernel_rfl) (fun _ _ _ h => h) (Or.inl ⟨by rfl, ?_⟩) rfl ?_
              rotate_left
              · intro w' hw'; subst hw'; go_simp; try with_reducible rfl
              refine wpAnyH_take (i := 2) (v := ?_) rfl (by kernel_rfl) (by kernel_rfl) (by kernel_rfl) (fun _ _ _ h => h) (Or.inl ⟨by rfl, ?_⟩) rfl ?_
              rotate_left
              · intro w' hw'; subst hw'; go_simp; try with_reducible rfl
              refine wpAnyH_take (i := 3) (v := ?_) rfl (by kernel_rfl) (by kernel_rfl) (by kernel_rfl) (fun _ _ _ h => h) (Or.inl ⟨by rfl, ?_⟩) rfl ?_
              rotate_left
              · intro w' hw'; subst hw'; go_simp; try with_reducible rfl
              refine wpAnyH_take (i := 4) (v := ?_) rfl (by kernel_rfl) (by kernel_rfl) (by kernel_rfl) (fun _ _ _ h => h) (Or.inl ⟨by rfl, ?_⟩) rfl ?_
              rotate_left
              · intro w' hw'; subst hw'; go_simp; try with_reducible rfl
              refine wpAnyH_take (i := 5) (v := .agg ids.toArray) rfl (by kernel_rfl) (by kernel_rfl) (by kernel_rfl) (fun _ _ _ h => h) (yieldsIf_load_mid rfl 38 (.tmp 123) rfl ga (i * 22) ?_ ids _ (fun _ h => h ▸ k2) Trym.underlying38 rfl hi38) rfl ?_
              · simp [Act.eval, Act.put]
              refine wpAnyH_take (i := 6) (v := ?_) rfl (by kernel_rfl) (by kernel_rfl) (by kernel_rfl) (fun _ _ _ h => h) (Or.inl ⟨by rfl, ?_⟩) rfl ?_
              rotate_left
              · intro w' hw'; subst hw'; go_simp; try with_reducible rfl
              refine wpAnyH_take (i := 7) (v := ?_) rfl (by kernel_rfl) (by kernel_rfl) (by kernel_rfl) (fun _ _ _ h => h) (Or.inl ⟨by rfl, ?_⟩) rfl ?_
              rotate_left
              · intro w' hw'; subst hw'; go_simp; try with_reducible rfl
              go_simp
              refine wpAnyH_take (i := 8) (v := ?_) rfl (by kernel_rfl) (by kernel_rfl) (by kernel_rfl) (fun _ _ _ h => h) (Or.inl ⟨by rfl, ?_⟩) rfl ?_
              rotate_left
              · intro w' hw'; subst hw'; go_simp; try with_reducible rfl
              refine wpAnyH_take (i := 9) (v := ?_) rfl (by kernel_rfl) (by kernel_rfl) (by kernel_rfl) (fun _ _ _ h => h) (Or.inl ⟨by rfl, ?_⟩) rfl ?_
              rotate_left
              · intro w' hw'; subst hw'; go_simp; try with_reducible rfl
              refine wpAnyH_take (i := 10) (v := ?_) rfl (by kernel_rfl) (by kernel_rfl) (by kernel_rfl) (fun _ _ _ h => h) (Or.inl ⟨by rfl, ?_⟩) rfl ?_
              rotate_left
              · intro w' hw'; subst hw'; go_simp; try with_reducible rfl
              refine wpAnyH_take (i := 11) (v := ?_) rfl (by kernel_rfl) (by kernel_rfl) (by kernel_rfl) (fun _ _ _ h => h) (Or.inl ⟨by rfl, ?_⟩) rfl ?_
              rotate_left
              · intro w' hw'; subst hw'; go_simp; try with_reducible rfl
              refine wpAnyH_take (i := 12) (v := ?_) rfl (by kernel_rfl) (by kernel_rfl) (by kernel_rfl) (fun _ _ _ h => h) (Or.inl ⟨by rfl, ?_⟩) rfl ?_
              rotate_left
              · intro w' hw'; subst hw'; go_simp; try with_reducible rfl
              go_simp
              refine wpAnyH_take (i := 13) (v := ?_) rfl (by kernel_rfl) (by kernel_rfl) (by kernel_rfl) (fun _ _ _ h => h) (Or.inl ⟨by rfl, ?_⟩) rfl ?_
              rotate_left
              · intro w' hw'; subst hw'; go_simp; try with_reducible rfl
              go_simp
              refine wpAnyH_take (i := 14) (v := ?_) rfl (by kernel_rfl) (by kernel_rfl) (by kernel_rfl) (fun _ _ _ h => h) (Or.inl ⟨by rfl, ?_⟩) rfl ?_
              rotate_left
              · intro w' hw'; subst hw'; go_simp; try with_reducible rfl
              refine wpAnyH_take (i := 15) (v := ?_) rfl (by kernel_rfl) (by kernel_rfl) (by kernel_rfl) (fun _ _ _ h => h) (Or.inl ⟨by rfl, ?_⟩) rfl ?_
              rotate_left
              · intro w' hw'; subst hw'; go_simp; try with_reducible rfl
              refine wpAnyH_take (i := 16) (v := ?_) rfl (by kernel_rfl) (by kernel_rfl) (by kernel_rfl) (fun _ _ _ h => h) (Or.inl ⟨by rfl, ?_⟩) rfl ?_
              rotate_left
              · intro w' hw'; subst hw'; go_simp; try with_reducible rfl
              go_simp
              refine wpAnyH_take (i := 17) (v := ?_) rfl (by kernel_rfl) (by kernel_rfl) (by kernel_rfl) (fun _ _ _ h => h) (Or.inl ⟨by rfl, ?_⟩) rfl ?_
              rotate_left
              · intro w' hw'; subst hw'; go_simp; try with_reducible rfl
              refine wpAnyH_take (i := 18) (v := ?_) rfl (by kernel_rfl) (by kernel_rfl) (by kernel_rfl) (fun _ _ _ h => h) (Or.inl ⟨by rfl, ?_⟩) rfl ?_
              rotate_left
              · intro w' hw'; subst hw'; go_simp; try with_reducible rfl
              go_simp
              refine wpAnyH_take (i := 19) (v := ?_) rfl (by kernel_rfl) (by kernel_rfl) (by kernel_rfl) (fun _ _ _ h => h) (Or.inl ⟨by rfl, ?_⟩) rfl ?_
              rotate_left
              · intro w' hw'; subst hw'; go_simp; try with_reducible rfl
              refine wpAnyH_take (i := 20) (v := ?_) rfl (by kernel_rfl) (by kernel_rfl) (by kernel_rfl) (fun _ _ _ h => h) (Or.inl ⟨by rfl, ?_⟩) rfl ?_
              rotate_left
              · intro w' hw'; subst hw'; go_simp; try with_reducible rfl
              go_simp
              refine wpAnyH_take (i := 21) (v := ?_) rfl (by kernel_rfl) (by kernel_rfl) (by kernel_rfl) (fun _ _ _ h => h) (Or.inl ⟨by rfl, ?_⟩) rfl ?_
              rotate_left
              · intro w' hw'; subst hw'; go_simp; try with_reducible rfl
              go_simp
              refine wpAnyH_take (i := 22) (v := ?_) rfl (by kernel_rfl) (by kernel_rfl) (by kernel_rfl) (fun _ _ _ h => h) (Or.inl ⟨by rfl, ?_⟩) rfl ?_
              rotate_left
              · intro w' hw'; subst hw'; go_simp; try with_reducible rfl
              go_simp
              refine wpAnyH_take (i := 23) (v := ?_) rfl (by kernel_rfl) (by kernel_rfl) (by kernel_rfl) (fun _ _ _ h => h) (Or.inl ⟨by rfl, ?_⟩) rfl ?_
              rotate_left
              · intro w' hw'; subst hw'; go_simp; try with_reducible rfl
              go_simp
              refine wpAnyH_take (i := 24) (v := ?_) rfl (by kernel_rfl) (by kernel_rfl) (by kernel_rfl) (fun _ _ _ h => h) (Or.inl ⟨by rfl, ?_⟩) rfl ?_
              rotate_left
              · intro w' hw'; subst hw'; go_simp; try with_reducible rfl
              refine wpAnyH_done (by kernel_rfl) ?_ _
              clear k1 k2 k3 k4
              go_wp2_with fail
              go_roundw
              case rel => exact ⟨i + 1, by omega, by go_num, HL9.out⟩
              case measure => simp [intOf]; omega
            · obtain rfl : i = j := by omega
              go_wp2_with fail
              go_ret
              obtain ⟨_, _, _, _, hbel, _⟩ := hLL
              exact ⟨rfl, hbel⟩
end Go.Proofs.Qxb6601483aMods
