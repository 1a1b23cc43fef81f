/-
  FnAppendCopyDecodesToCanonicalCopies (3): the walk.
-/
import Derived.Test.Qxb6601483aModsAppend
import Derived.Deep.QuietTactic
import Derived.BigQuiet
namespace Go.Proofs.Qxb6601483aMods
open Go.ChangeShapes Go.WideShapes Go.ChangeAt Go.RowKit

theorem enc1_len_eq (O C : Int) : (enc1 O C).length = 1 + (bytesTo (bo O) 4).length + (bytesTo (szb C) 3).length := by simp [enc1]; omega
theorem bytesTo_lt (f : Nat → Int) (i n : Nat) (h : i < n) (hf : fl f i = true) : (bytesTo f i).length < (bytesTo f n).length := by
  have h1 := bytesTo_at f i n h hf
  exact (List.getElem?_eq_some_iff.1 h1).1
/-- Byte i of the offset, where the decoder looks for it. -/
theorem enc1_off (O C : Int) (i : Nat) (h : i < 4) (hf : fl (bo O) i = true) : 1 + (bytesTo (bo O) i).length < (enc1 O C).length ∧ (enc1 O C).getD (1 + (bytesTo (bo O) i).length) 0 = bo O i := by
  have h1 := bytesTo_at (bo O) i 4 h hf
  have h2 := bytesTo_lt (bo O) i 4 h hf
  refine ⟨by rw [enc1_len_eq]; omega, ?_⟩
  rw [List.getD_eq_getElem?_getD, enc1, Nat.add_comm 1, List.getElem?_cons_succ, List.getElem?_append_left h2, h1]
  rfl
/-- Byte i of the size, where the decoder looks for it. -/
theorem enc1_sz (O C : Int) (i : Nat) (h : i < 3) (hf : fl (szb C) i = true) : 1 + (bytesTo (bo O) 4).length + (bytesTo (szb C) i).length < (enc1 O C).length ∧ (enc1 O C).getD (1 + (bytesTo (bo O) 4).length + (bytesTo (szb C) i).length) 0 = szb C i := by
  have h1 := bytesTo_at (szb C) i 3 h hf
  have h2 := bytesTo_lt (szb C) i 3 h hf
  refine ⟨by rw [enc1_len_eq]; omega, ?_⟩
  rw [List.getD_eq_getElem?_getD, enc1, Nat.add_comm 1, Nat.add_right_comm, List.getElem?_cons_succ, List.getElem?_append_right (by omega), Nat.add_sub_cancel_left, h1]
  rfl
theorem bytesTo_step (f : Nat → Int) (i : Nat) : (bytesTo f (i + 1)).length = (bytesTo f i).length + (if fl f i then 1 else 0) := by
  simp only [bytesTo, fl]
  split <;> simp_all

/-- A row of numbers that is owned and not empty: where it lies, and its cells. -/
theorem own_ints {w : World} {B e n cap : Nat} {a : Option Addr} {k : IntKind} {zs : List Int} (h : w.ownsRow B e 1 (.slice a n cap) n (zs.map (Value.int k))) (hn : 0 < n) :
    ∃ g, a = some ⟨g, 0, none⟩ ∧ ∀ j, j < n → w.cell? ⟨g, j, none⟩ = some (.int k (zs.getD j 0)) := by
  have hl : zs.length = n := by simpa using h.1
  rcases h.2 with ⟨_, h0⟩ | ⟨g, cap', cur, hv, _⟩
  · omega
  · cases hv
    refine ⟨g, rfl, fun j hj => ?_⟩
    rw [h.cellAt j (by omega)]
    simp [show j < zs.length by omega]

set_option maxHeartbeats 1000000 in
set_option maxRecDepth 100000 in
theorem f3_main (a : Option Addr) (len cap : Nat) (zs : List Int) (o sz : Int) (w : World) (hrow : RowIn w a len cap zs) (hsm : zs.length ≤ 1048576) (ho1 : -9223372036854775808 ≤ o) (ho2 : o ≤ 9223372036854775807)
    (h1 : -9223372036854775808 ≤ sz) (h2 : sz ≤ 4294967296) :
    Calls Trym.prog 3 #[.slice a len cap, .int .i64 o, .int .i64 sz] w fun e w' => e = .returned (.bool true) ∧ Below w.heap.size w w' := by
  obtain rfl := hrow.1
  have hsi : (zs.length : Int) ≤ 1048576 := by omega
  have ht2 : decide ((1048576 : Int) < (zs.length : Int)) = false := by simp; omega
  have ht3 : decide (4294967296 < sz) = false := by simp; omega
  go_enter Trym.func3, Trym.ntmps3
  go_wp2_with fail
  refine (f7_yes a zs.length cap o sz _ hsi).mono ?_
  rintro e w' ⟨rfl, rfl⟩
  go_wp2_with fail
  refine (f8_any a zs.length cap zs _ hrow hsm).mono ?_
  rintro e w1 ⟨v1, rfl, own1, bel1⟩
  obtain ⟨a1, cap1, rfl, row1⟩ := rowIn_of_owns own1
  go_wp2_with fail
  refine (f8_any a1 zs.length cap1 zs _ row1 hsm).mono ?_
  rintro e w2 ⟨v2, rfl, own2, bel2⟩
  obtain ⟨a2, cap2, rfl, row2⟩ := rowIn_of_owns own2
  go_wp2_with fail
  have own1' : w2.ownsRow 0 5 1 (.slice a1 zs.length cap1) zs.length (zs.map (Value.int .u8)) :=
    owns_base (owns_grew own1 (Grew.of_below bel2) (fun k hk => by have := (own1.lt k hk).2; omega)) (fun _ _ => Nat.zero_le _)
  refine (f9_any (.slice a1 zs.length cap1) zs o sz (fun k => Value.ownBlock (.slice a1 zs.length cap1) = some k ∨ w2.heap.size ≤ k) _ (fun k hk => .inl hk) (fun k hk => .inr hk) own1' ho1 ho2 h1 h2 hsm).mono ?_
  rintro e w3 ⟨v3, rfl, own3, gr3, _⟩
  have own2' : w3.ownsRow 0 5 1 (.slice a2 zs.length cap2) zs.length (zs.map (Value.int .u8)) :=
    owns_base (owns_grew own2 gr3 (fun k hk hS => by
      have e2 := own2.lt k hk
      rcases hS with hS | hS
      · have := (own1.lt k hS).2; omega
      · omega)) (fun _ _ => Nat.zero_le _)
  have bel3 : Below w.heap.size w w3 :=
    (bel1.trans (bel2.mono bel1.size)).trans ((gr3.mono (T := fun k => w.heap.size ≤ k) (fun k _ hS => by
      rcases hS with hS | hS
      · exact (own1.lt k hS).1
      · have := bel1.size; have := bel2.size; omega)).below (by have := bel1.size; have := bel2.size; omega) (fun k hk => by omega))
  clear own1 own1' own2 gr3 bel1 bel2 row1 row2 hrow
  have hol : (zs ++ encTo o sz (many sz)).length = zs.length + (encTo o sz (many sz)).length := by simp
  have hmy := many_le sz h2
  have hel := encTo_len o sz (many sz)
  obtain ⟨out, hout⟩ : ∃ out, out = zs ++ encTo o sz (many sz) := ⟨_, rfl⟩
  obtain ⟨ol, hole⟩ : ∃ ol, ol = out.length := ⟨_, rfl⟩
  rw [← hout] at own3 hol
  rw [← hole] at own3 hol
  obtain ⟨a3, cap3, rfl⟩ : ∃ a3 cap3, v3 = .slice a3 ol cap3 := by
    obtain ⟨a3, cap3, h, _⟩ := rowIn_of_owns own3
    exact ⟨a3, cap3, by rw [h, hole]⟩
  have HO : Hid (out = zs ++ encTo o sz (many sz) ∧ ol = out.length ∧ ol = zs.length + (encTo o sz (many sz)).length) := ⟨hout, hole, hol⟩
  have ho3 : zs.length ≤ ol := by omega
  have ho4 : ol ≤ 1048576 + 8 * 65536 := by omega
  have ht1 : decide (ol < zs.length) = false := by simp; omega
  clear hout hole hol hel hmy
  go_wp2_with fail
  go_loopw [9] (fun i wr => ∃ k : Nat, k ≤ zs.length ∧ i = .int .i64 k ∧ ∃ q, wr = w3.drewN q) (fun i _ => zs.length - (intOf i).toNat)
  case atStart => exact ⟨0, Nat.zero_le _, rfl, 0, rfl⟩
  case round =>
    obtain ⟨k, hk, rfl, q, rfl⟩ := hrel
    by_cases hlt : k < zs.length
    · obtain ⟨g2, rfl, hc2⟩ := own_ints own2' (by omega)
      obtain ⟨g3, rfl, hc3⟩ := own_ints own3 (by omega)
      have c2 := hc2 k hlt
      have c3 := hc3 k (by omega)
      have e : out.getD k 0 = zs.getD k 0 := by rw [HO.out.1]; simp [List.getD, List.getElem?_append_left hlt]
      rw [e] at c3
      have i2 : (k : Int) < (zs.length : Int) := by omega
      have i3 : (k : Int) < (ol : Int) := by omega
      clear own2' own3 hc2 hc3 e
      obtain ⟨z, hz⟩ : ∃ z, zs.getD k 0 = z := ⟨_, rfl⟩
      rw [hz] at c2 c3
      clear hz
      go_wp2_with fail
      go_quiet (fail)
      go_wp2_with fail
      go_roundw
      case rel => exact ⟨k + 1, by omega, by go_num, _, rfl⟩
      case measure => simp [intOf]; omega
    · obtain rfl : k = zs.length := by omega
      go_wp2_with fail
      go_loopw [10, 11, 12] (fun pv kv rv wr => ∃ k : Nat, k ≤ many sz ∧ kv = .int .i64 k ∧ rv = .int .i64 (sz - used sz k) ∧ (∃ pp : Nat, pv = .int .i64 pp ∧ Hid (pp = zs.length + (encTo o sz k).length)) ∧ wr = w3.drewN q) (fun _ _ r _ => (intOf r).toNat)
      case atStart => exact ⟨0, Nat.zero_le _, rfl, by rw [used_zero, Int.sub_zero], ⟨_, rfl, by simp [Hid, encTo]⟩, rfl⟩
      case round =>
        obtain ⟨k, hk, rfl, rfl, ⟨pp, rfl, HP⟩, rfl⟩ := hrel
        by_cases hlt : 0 < sz - used sz k
        · have hkm := (many_lt sz k).2 hlt
          have hp := piece_eq sz k hlt
          have hpr := piece_range sz k hlt
          have hul := used_le sz k
          have hua := used_at sz k hlt
          have hmy := many_le sz h2
          obtain ⟨O, hO⟩ : ∃ O, O = wrap64 (o + used sz k) := ⟨_, rfl⟩
          obtain ⟨Z, hZ⟩ : ∃ Z, Z = sz - used sz k := ⟨_, rfl⟩
          obtain ⟨C, hC⟩ : ∃ C, C = piece sz k := ⟨_, rfl⟩
          obtain ⟨ch, hch⟩ : ∃ ch, ch = chunk o sz k := ⟨_, rfl⟩
          have hch1 : ch = enc1 O C := by rw [hch, hO, hC]; rfl
          have hin : ∀ j, j < ch.length → pp + j < ol ∧ out.getD (pp + j) 0 = ch.getD j 0 := by
            intro j hj
            rw [hch] at hj
            have e1 := encTo_le o sz k (many sz) hkm
            have e2 := encTo_at o sz k (many sz) hkm j hj
            have e3 := HO.out
            have e4 := HP.out
            refine ⟨by omega, ?_⟩
            rw [e3.1, e4, List.getD_eq_getElem?_getD, List.getElem?_append_right (by omega), List.getD_eq_getElem?_getD, hch, ← e2]
            congr 2
            omega
          rw [hch1] at hin
          rw [← hZ] at hlt hp ⊢
          rw [← hC] at hp hpr
          have HH : Hid (O = wrap64 (o + used sz k) ∧ Z = sz - used sz k ∧ C = piece sz k ∧ ch = chunk o sz k ∧ ch = enc1 O C ∧ used sz k = 65536 * (k : Int)) := ⟨hO, hZ, hC, hch, hch1, hua⟩
          have HC : Hid (C = if 65536 < Z then 65536 else Z) := hp
          have hZb : Z ≤ 4294967296 := by omega
          have hkb : k < 65536 := by omega
          clear hO hZ hC hch hch1 hp hul hua hkm
          have hpp : pp < ol := (hin 0 (by simp [enc1])).1
          obtain ⟨g3, rfl, hc3⟩ := own_ints own3 (by omega)
          have hc4 : ∀ j, j < (enc1 O C).length → w3.cell? ⟨g3, pp + j, none⟩ = some (.int .u8 ((enc1 O C).getD j 0)) := fun j hj => by rw [hc3 _ (hin j hj).1, (hin j hj).2]
          have hi4 : ∀ j, j < (enc1 O C).length → pp + j < ol := fun j hj => (hin j hj).1
          clear own2' own3 hc3 hin
          have cc : w3.cell? ⟨g3, pp, none⟩ = some (.int .u8 (cmd O C)) := by simpa [enc1] using hc4 0 (by simp [enc1])
          have HX : Hid ((∀ j, j < (enc1 O C).length → w3.cell? ⟨g3, pp + j, none⟩ = some (.int .u8 ((enc1 O C).getD j 0))) ∧ ∀ j, j < (enc1 O C).length → pp + j < ol) := ⟨hc4, hi4⟩
          clear hc4 hi4
          have hcr := cmd_range O C
          have htop := cmd_top O C
          go_upto_if 66 with fail
          go_cut [13] (fun s13 wx => s13 = .int .i64 C ∧ w3.drewN q = wx)
          case first =>
            go_wp2_with fail
            all_goals go_meet
            all_goals exact ⟨by rw [HC.out]; split <;> first | rfl | omega, rfl⟩
          case rest =>
          obtain ⟨rfl, rfl⟩ := hcut
          go_wp2_with fail
          clear htop hcr cc
          obtain ⟨WO, hWO⟩ : ∃ WO, (o % 4294967296 + (k : Int) * 65536) % 4294967296 = WO := ⟨_, rfl⟩
          rw [hWO]
          have HW : Hid ((o % 4294967296 + (k : Int) * 65536) % 4294967296 = WO) := hWO
          clear hWO
          go_loop [10, 16, 17] (fun pv ov iv => ∃ i : Nat, i ≤ 4 ∧ iv = .int .i64 i ∧ ov = .int .u32 (valTo (bo O) i) ∧ ∃ pq : Nat, pv = .int .i64 pq ∧ Hid (pq = pp + 1 + (bytesTo (bo O) i).length)) (fun _ _ i => 4 - (intOf i).toNat)
          case atStart => exact ⟨0, by omega, rfl, rfl, pp + 1, by go_num, by simp [Hid, bytesTo]⟩
          case round =>
            obtain ⟨i, hi, rfl, rfl, pq, rfl, HQ⟩ := hrel
            by_cases hi4 : i < 4
            · have hfl := cmd_off O C i hi4
              have HST : Hid ((bytesTo (bo O) (i + 1)).length = (bytesTo (bo O) i).length + (if fl (bo O) i then 1 else 0)) := bytesTo_step (bo O) i
              have hbr := bo_range O i
              cases hb : fl (bo O) i with
              | true =>
                have hE := enc1_off O C i hi4 hb
                have hcq := HX.out.1 _ hE.1
                have hlq := HX.out.2 _ hE.1
                rw [hE.2, ← Nat.add_assoc, ← HQ.out] at hcq
                rw [← Nat.add_assoc, ← HQ.out] at hlq
                rw [hb] at hfl
                have hbz : (bo O i == 0) = false := by simpa [fl, bne] using hb
                have HV : Hid (bits .or .u32 (valTo (bo O) i) (bo O i * 2 ^ (8 * i) % 4294967296) = valTo (bo O) (i + 1)) := or_u32 (bo O) (bo_range O) i hi4
                have hB : Hid (fl (bo O) i = true) := hb
                clear hE hb
                obtain ⟨B, hBe⟩ : ∃ B, B = bo O i := ⟨_, rfl⟩
                rw [← hBe] at hcq hbz hbr HV
                clear hBe
                go_wp2_with fail
                go_round
                case rel =>
                  refine ⟨u6, .int .i64 (pq + 1), _, .int .i64 (i + 1), ⟨i + 1, by omega, by go_num, rfl, pq + 1, by go_num, ?_⟩, rfl, rfl, by rw [HV.out], rfl⟩
                  rw [Hid, HST.out, hB.out, HQ.out]; simp; omega
                case measure => simp [intOf]; omega
              | false =>
                rw [hb] at hfl
                have hB : Hid (fl (bo O) i = false) := hb
                clear hb
                go_wp2_with fail
                go_round
                case rel => exact ⟨i + 1, by omega, by go_num, by rw [valTo_same (bo O) i hB.out], pq, rfl, by rw [Hid, HST.out, hB.out]; simpa using HQ.out⟩
                case measure => simp [intOf]; omega
            · obtain rfl : i = 4 := by omega
              clear hi4 hi
              go_wp2_with fail
              go_loop [10, 18, 19, 20] (fun pv nv hv iv => ∃ i : Nat, i ≤ 3 ∧ iv = .int .i64 i ∧ nv = .int .i64 (valTo (szb C) i) ∧ hv = .bool (anyTo (szb C) i) ∧ ∃ pr : Nat, pv = .int .i64 pr ∧ Hid (pr = pq + (bytesTo (szb C) i).length)) (fun _ _ _ i => 3 - (intOf i).toNat)
              case atStart => exact ⟨0, by omega, rfl, rfl, rfl, pq, rfl, by simp [Hid, bytesTo]⟩
              case round =>
                obtain ⟨i, hi, rfl, rfl, rfl, pr, rfl, HR⟩ := hrel
                by_cases hi4 : i < 3
                · have hfl := cmd_sz O C i hi4
                  have HST : Hid ((bytesTo (szb C) (i + 1)).length = (bytesTo (szb C) i).length + (if fl (szb C) i then 1 else 0)) := bytesTo_step (szb C) i
                  have hbr := szb_range C i
                  cases hb : fl (szb C) i with
                  | true =>
                    have hE := enc1_sz O C i hi4 hb
                    have hcq := HX.out.1 _ hE.1
                    have hlq := HX.out.2 _ hE.1
                    have e : pp + (1 + (bytesTo (bo O) 4).length + (bytesTo (szb C) i).length) = pr := by rw [HR.out, HQ.out]; omega
                    rw [hE.2, e] at hcq
                    rw [e] at hlq
                    rw [hb] at hfl
                    have hbz : (szb C i == 0) = false := by simpa [fl, bne] using hb
                    have HV : Hid (bits .or .i64 (valTo (szb C) i) (wrap64 (szb C i * 2 ^ (8 * i))) = valTo (szb C) (i + 1)) := or_i64 (szb C) (szb_range C) i (by omega)
                    have HA : Hid (anyTo (szb C) (i + 1) = true) := by simp only [Hid, anyTo]; rw [if_pos (by simpa [fl] using hb)]
                    have hB : Hid (fl (szb C) i = true) := hb
                    clear hE hb e
                    obtain ⟨B, hBe⟩ : ∃ B, B = szb C i := ⟨_, rfl⟩
                    rw [← hBe] at hcq hbz hbr HV
                    clear hBe
                    go_wp2_with fail
                    go_round
                    case rel => exact ⟨i + 1, by omega, by go_num, by rw [HV.out], by rw [HA.out], pr + 1, by go_num, by rw [Hid, HST.out, hB.out, HR.out]; simp; omega⟩
                    case measure => simp [intOf]; omega
                  | false =>
                    rw [hb] at hfl
                    have hB : Hid (fl (szb C) i = false) := hb
                    have HA : Hid (anyTo (szb C) (i + 1) = anyTo (szb C) i) := by simp only [Hid, anyTo]; rw [if_neg (by simpa [fl] using hb)]
                    clear hb
                    go_wp2_with fail
                    go_round
                    case rel => exact ⟨i + 1, by omega, by go_num, by rw [valTo_same (szb C) i hB.out], by rw [HA.out], pr, rfl, by rw [Hid, HST.out, hB.out]; simpa using HR.out⟩
                    case measure => simp [intOf]; omega
                · obtain rfl : i = 3 := by omega
                  have hoff : (valTo (bo O) 4 != WO) = false := by
                    rw [valTo_off, HH.out.1, off_eq o sz k HH.out.2.2.2.2.2, HW.out]; simp
                  have HP2 : Hid (pr = zs.length + (encTo o sz (k + 1)).length) := by
                    have e1 := HR.out
                    have e2 := HQ.out
                    have e3 := HP.out
                    have e4 := enc1_len_eq O C
                    have e5 := HH.out.2.2.2.2.1
                    have e6 := HH.out.2.2.2.1
                    simp only [Hid, encTo, List.length_append]
                    rw [← e6, e5, e4]
                    omega
                  have hkm : k + 1 ≤ many sz := by
                    have h3 := (many_lt sz k).2 (by have := HH.out.2.1; omega)
                    omega
                  have HZ : Hid (Z - C = sz - used sz (k + 1)) := by
                    simp only [Hid, used_succ]
                    have e1 := HH.out.2.1
                    have e2 := HH.out.2.2.1
                    omega
                  clear hi hi4 HX
                  by_cases hC : C = 65536
                  · subst hC
                    rw [anyTo_whole, valTo_whole]
                    go_wp2_with fail
                    go_roundw
                    case rel => exact ⟨k + 1, hkm, by go_num, by rw [HZ.out], ⟨pr, rfl, HP2⟩, trivial⟩
                    case measure => simp [intOf]; omega
                  · have hC2 : (C == 65536) = false := by simpa using hC
                    have hCC : (C != C) = false := by simp
                    rw [anyTo_sz C hpr.1 (by omega), valTo_sz C hpr.1 (by omega)]
                    go_wp2_with fail
                    go_roundw
                    case rel => exact ⟨k + 1, hkm, by go_num, by rw [HZ.out], ⟨pr, rfl, HP2⟩, trivial⟩
                    case measure => simp [intOf]; omega
        · have e : k = many sz := by have := many_lt sz k; omega
          subst e
          have hpe : pp = ol := by rw [HP.out, HO.out.2.2]
          subst hpe
          go_wp2_with fail
          go_ret
          exact ⟨rfl, below_drewN bel3 q⟩
end Go.Proofs.Qxb6601483aMods
