/-
  appendCopy (22), ZZAppendCopy (9): the Go text writes what Plain's 'encTo' says.
-/
import Derived.Test.Qxb6601483aModsLeaf
import Derived.Test.Qxb6601483aModsPlain
import Derived.Test.Qxb6601483aModsOwn
import Derived.Deep.DeepCutAuto
import Derived.RegionTactic
namespace Go.Proofs.Qxb6601483aMods
open Go.ChangeShapes Go.WideShapes Go.ChangeAt Go.RowKit

theorem own_mark {w : World} {B g cap L : Nat} {ys : List Int} {c : Int} {bs : List Int} (h : w.ownsRow B 5 1 (.slice (some ⟨g, 0, none⟩) L cap) L ((ys ++ c :: bs).map (Value.int .u8))) (c' : Int) :
    (w.setCell ⟨g, ys.length, none⟩ (.int .u8 c')).ownsRow B 5 1 (.slice (some ⟨g, 0, none⟩) L cap) L ((ys ++ c' :: bs).map (Value.int .u8)) := by
  have h1 := (h.stored ys.length (.int .u8 c')).1
  have e : ((ys ++ c :: bs).map (Value.int .u8)).set ys.length (.int .u8 c') = (ys ++ c' :: bs).map (Value.int .u8) := by
    rw [List.map_append, List.map_append, List.set_append_right _ _ (by simp)]
    simp
  rw [e] at h1
  exact h1
theorem own_mark_cell {w : World} {B g cap L : Nat} {ys : List Int} {c : Int} {bs : List Int} (h : w.ownsRow B 5 1 (.slice (some ⟨g, 0, none⟩) L cap) L ((ys ++ c :: bs).map (Value.int .u8))) :
    w.cell? ⟨g, ys.length, none⟩ = some (.int .u8 c) := by
  have hl : (ys ++ c :: bs).length = L := by simpa using h.1
  rw [h.cellAt ys.length (by simp at hl; omega)]
  simp
/-- A slice value that owns something is no nil. -/
theorem own_shape {w : World} {B n : Nat} {v : Value} {xs : List Value} (h : w.ownsRow B 5 1 v n xs) (hn : 0 < n) : ∃ g cap, B ≤ g ∧ g < w.heap.size ∧ v = .slice (some ⟨g, 0, none⟩) n cap := by
  rcases h.2 with ⟨_, h0⟩ | ⟨g, cap, cur, rfl, hb, hg, _⟩
  · omega
  · exact ⟨g, cap, hb, (Array.getElem?_eq_some_iff.1 hg).1, rfl⟩

/-- The one new cell of an append's source, behind a store and a draw. -/
theorem cell_new_drew (w : World) (a : Addr) (u x : Value) (t : TypeId) : ∀ j y, [x][j]? = some y → ((w.setCell a u).alloc (.cells #[x] t)).drew.cell? ((⟨w.heap.size, 0, none⟩ : Addr).add j) = some y := by
  intro j y hj
  have h := cell_one_new (w.setCell a u) x t j y hj
  have e : (w.setCell a u).heap.size = w.heap.size := by simp [World.setCell]
  rw [e] at h
  exact h

theorem mark_true (f : Nat → Int) (s : Nat) (c : Int) (k : Nat) (h : (f k != 0) = true) : mark (fl f) s c (k + 1) = bits .or .u8 (mark (fl f) s c k) (2 ^ (s + k) % 256) ∧ bytesTo f (k + 1) = bytesTo f k ++ [f k] := by
  constructor
  · simp only [mark, fl, h, if_true]
  · simp only [bytesTo, h, if_true]
theorem mark_false (f : Nat → Int) (s : Nat) (c : Int) (k : Nat) (h : (f k != 0) = false) : mark (fl f) s c (k + 1) = mark (fl f) s c k ∧ bytesTo f (k + 1) = bytesTo f k := by
  constructor
  · simp [mark, fl, h]
  · simp [bytesTo, h]
theorem mark_range (p : Nat → Bool) (s : Nat) (c : Int) (k : Nat) (h0 : 0 ≤ c) (h1 : c < 256) : 0 ≤ mark p s c k ∧ mark p s c k < 256 := by
  induction k with
  | zero => exact ⟨h0, h1⟩
  | succ k ih =>
    simp only [mark]
    split
    · rw [u8_or _ _ ih.1 ih.2 (by omega) (by omega)]
      refine ⟨by omega, ?_⟩
      have h := Nat.or_lt_two_pow (x := (mark p s c k).toNat) (y := ((2 : Int) ^ (s + k) % 256).toNat) (n := 8) (by omega) (by omega)
      omega
    · exact ih

/-- The state of the slice inside the two inner loops. -/
def Mid (S : Nat → Prop) (w wr : World) (ys : List Int) (c : Int) (bs : List Int) (g cap L : Nat) : Prop :=
  L = ys.length + 1 + bs.length ∧ S g ∧ wr.ownsRow 0 5 1 (.slice (some ⟨g, 0, none⟩) L cap) L ((ys ++ c :: bs).map (Value.int .u8)) ∧ Grew w wr S

/-- One byte more. -/
theorem mid_push {S : Nat → Prop} {w wq w1 : World} {ys : List Int} {c : Int} {bs : List Int} {g L cap : Nat} {x : Int} {v1 : Value} (hL : L = ys.length + 1 + bs.length) (hS : ∀ k, w.heap.size ≤ k → S k) (hg : S g) (hbel : Grew w wq S)
    (hown1 : w1.ownsRow 0 5 1 v1 (L + 1) ((ys ++ c :: bs).map (Value.int .u8) ++ [Value.int .u8 x])) (hgrow : wq.grownBy w1 (some g))
    (hblk : ∀ k, v1.ownBlock = some k → Value.ownBlock (.slice (some ⟨g, 0, none⟩) L cap) = some k ∨ wq.heap.size ≤ k) :
    ∃ g' cap', v1 = .slice (some ⟨g', 0, none⟩) (L + 1) cap' ∧ Mid S w w1 ys c (bs ++ [x]) g' cap' (L + 1) := by
  obtain ⟨g', cap', h1, h2, rfl⟩ := own_shape hown1 (by omega)
  refine ⟨g', cap', rfl, by simp; omega, ?_, by simpa using hown1, hbel.grown hgrow (fun k hk => by cases hk; exact hg)⟩
  rcases hblk g' rfl with h | h
  · simp only [Value.ownBlock, Option.some.injEq] at h
    exact h ▸ hg
  · exact hS g' (Nat.le_trans hbel.size h)

set_option maxHeartbeats 1000000 in
theorem f22_any (v : Value) (xs : List Int) (o sz : Int) (S : Nat → Prop) (w : World) (hS1 : ∀ k, v.ownBlock = some k → S k) (hS2 : ∀ k, w.heap.size ≤ k → S k) (hown0 : w.ownsRow 0 5 1 v xs.length (xs.map (Value.int .u8))) (ho1 : -9223372036854775808 ≤ o) (ho2 : o ≤ 9223372036854775807)
    (h1 : -9223372036854775808 ≤ sz) (h2 : sz ≤ 4294967296) (hn : xs.length ≤ 1048576) :
    Calls Trym.prog 22 #[v, .int .i64 o, .int .i64 sz] w fun e w' => ∃ v', e = .returned v' ∧
      w'.ownsRow 0 5 1 v' (xs ++ encTo o sz (many sz)).length ((xs ++ encTo o sz (many sz)).map (Value.int .u8)) ∧ Grew w w' S ∧ ∀ k, v'.ownBlock = some k → S k := by
  obtain ⟨i0, hi, hz0, hz1, hz2⟩ := info_parts Trym.info5
  go_enter Trym.func22, Trym.ntmps22
  go_wp2
  go_loopw [0, 1, 2] (fun d ov sv wr => ∃ k : Nat, k ≤ many sz ∧ ov = .int .i64 (wrap64 (o + used sz k)) ∧ sv = .int .i64 (sz - used sz k) ∧
      wr.ownsRow 0 5 1 d (xs ++ encTo o sz k).length ((xs ++ encTo o sz k).map (Value.int .u8)) ∧ Grew w wr S ∧ ∀ k, d.ownBlock = some k → S k)
    (fun _ _ s _ => (intOf s).toNat)
  case atStart => exact ⟨0, Nat.zero_le _, by rw [used_zero, Int.add_zero, IntWalk.wrap64_in o ⟨ho1, ho2⟩], by rw [used_zero, Int.sub_zero], by simpa [encTo] using hown0, Grew.refl _ _, hS1⟩
  case round =>
    obtain ⟨k, hk, rfl, rfl, hown, hbel, hdS⟩ := hrel
    have hmany := many_le sz h2
    have hel := encTo_len o sz k
    obtain ⟨ys, hys⟩ : ∃ ys, ys = xs ++ encTo o sz k := ⟨_, rfl⟩
    rw [← hys] at hown
    have hyl : ys.length ≤ 1048576 + 8 * 65536 := by rw [hys, List.length_append]; omega
    have HY : Hid (ys = xs ++ encTo o sz k) := hys
    clear hys hel
    obtain ⟨a, cap0, rfl, _⟩ := rowIn_of_owns hown
    by_cases hlt : 0 < sz - used sz k
    · have hkm := (many_lt sz k).2 hlt
      have hp := piece_eq sz k hlt
      have hpr := piece_range sz k hlt
      have hob := wrap64_range (o + used sz k)
      have hul := used_le sz k
      obtain ⟨O, hO⟩ : ∃ O, O = wrap64 (o + used sz k) := ⟨_, rfl⟩
      obtain ⟨Z, hS⟩ : ∃ Z, Z = sz - used sz k := ⟨_, rfl⟩
      obtain ⟨c', hc'⟩ : ∃ c', c' = piece sz k := ⟨_, rfl⟩
      rw [← hO] at hob ⊢
      rw [← hS] at hlt hp ⊢
      rw [← hc'] at hp hpr
      have hSb : Z ≤ 4294967296 := by omega
      have HO : Hid (O = wrap64 (o + used sz k)) := hO
      have HS : Hid (Z = sz - used sz k) := hS
      have HP : Hid (c' = piece sz k) := hc'
      have HC : Hid (c' = if 65536 < Z then 65536 else Z) := hp
      clear hO hS hc' hp hul
      go_upto_region 2 with fail
      go_cut [7] (fun s7 wx => s7 = .int .i64 c' ∧ wr = wx)
      case first =>
        go_wp2_with fail
        all_goals go_meet
        all_goals exact ⟨by rw [HC.out]; split <;> first | rfl | omega, rfl⟩
      case rest =>
      obtain ⟨rfl, rfl⟩ := hcut
      have hsz := hbel.size
      go_wp2_with (at_builtin; refine wpList_append_mine _ rfl _ _ 22 rfl 0 5 i0 (.int .u8 0) 1 1 Trym.underlying22 hi hz0 hz1 hz2 rfl (by decide) (.slice a ys.length cap0) ys.length (ys.map (Value.int .u8)) rfl (hown.alloc _) ⟨wr.heap.size, 0, none⟩ 1 1 [.int .u8 128] rfl rfl (cell_one_new _ _ _) (by simp [Value.oneCell']) (by unfold maxLen; omega) (by omega) (Nat.zero_le _) ?_; intro v1 w1 hown1 hgrow1 hblk)
      have hbel1 : Grew w w1 S := (hbel.alloc _).grown hgrow1 hdS
      obtain ⟨g, cap, _, _, hv⟩ := own_shape hown1 (by omega)
      rw [hv] at hown1 hblk ⊢
      have hg1 : S g := by
        rcases hblk g rfl with h | h
        · exact hdS g h
        · exact hS2 g (by simp at h; omega)
      have hmid : Mid S w w1 ys 128 [] g cap (ys.length + 1) := ⟨rfl, hg1, by simpa using hown1, hbel1⟩
      clear hv hown1 hgrow1 hown hbel hbel1 hblk hdS
      go_loopw [0, 22] (fun d i wr => ∃ j : Nat, j ≤ 4 ∧ i = .int .i64 j ∧ ∃ g cap L, d = .slice (some ⟨g, 0, none⟩) L cap ∧ Mid S w wr ys (mark (fl (bo O)) 0 128 j) (bytesTo (bo O) j) g cap L)
        (fun _ i _ => 4 - (intOf i).toNat)
      case atStart => exact ⟨0, by omega, rfl, g, cap, _, rfl, hmid⟩
      case round =>
        clear hmid
        obtain ⟨j, hj, rfl, g, cap, L, rfl, hL, hg1, hown, hbel⟩ := hrel
        have hbl := bytesTo_len (bo O) j
        have hL1 : ys.length < L := by omega
        have hL2 : L ≤ ys.length + 5 := by omega
        have HL : Hid (L = ys.length + 1 + (bytesTo (bo O) j).length) := hL
        clear hL
        by_cases hj4 : j < 4
        · have hcell := own_mark_cell hown
          have hfz := hown.frozenAt ys.length
          have hLy : (ys.length : Int) < (L : Int) := by omega
          have hmr := mark_range (fl (bo O)) 0 128 j (by omega) (by omega)
          cases hb : (O / 2 ^ (8 * j) % 256 != 0) with
          | true =>
            obtain ⟨hm1, hm2⟩ := mark_true (bo O) 0 128 j hb
            have HM : Hid (mark (fl (bo O)) 0 128 (j + 1) = bits .or .u8 (mark (fl (bo O)) 0 128 j) (2 ^ (0 + j) % 256) ∧ bytesTo (bo O) (j + 1) = bytesTo (bo O) j ++ [O / 2 ^ (8 * j) % 256]) := ⟨hm1, hm2⟩
            clear hm1 hm2
            obtain ⟨m, hm⟩ : ∃ m, m = mark (fl (bo O)) 0 128 j := ⟨_, rfl⟩
            obtain ⟨bs, hbs⟩ : ∃ bs, bs = bytesTo (bo O) j := ⟨_, rfl⟩
            rw [← hm, ← hbs] at HM
            rw [← hm] at hmr hcell hown
            rw [← hbs] at hbl HL hown
            clear hm hbs
            have own2 := own_mark hown (bits .or .u8 m (2 ^ j % 256))
            have hbel2 : Grew w (wr.setCell ⟨g, ys.length, none⟩ (.int .u8 (bits .or .u8 m (2 ^ j % 256)))) S := hbel.setCell hg1 _
            clear hown
            have hsz := hbel.size
            go_wp2
            go_region
            go_wp2_with (at_builtin; refine wpList_append_mine _ rfl _ _ 22 rfl 0 5 i0 (.int .u8 0) 1 1 Trym.underlying22 hi hz0 hz1 hz2 rfl (by decide) (.slice (some ⟨g, 0, none⟩) L cap) L ((ys ++ bits .or .u8 m (2 ^ j % 256) :: bs).map (Value.int .u8)) rfl ((own2.alloc _).drew) ⟨wr.heap.size, 0, none⟩ 1 1 [.int .u8 (O / 2 ^ (8 * j) % 256)] rfl rfl (cell_new_drew _ _ _ _ _) (by simp [Value.oneCell']) (by unfold maxLen; omega) (by omega) (Nat.zero_le _) ?_; intro v1 w1 hown1 hgrow1 hblk)
            obtain ⟨g', cap', hv1, hmid'⟩ := mid_push HL.out hS2 hg1 ((hbel2.alloc _).drew) hown1 hgrow1 hblk
            clear hown1 hgrow1 own2 hbel2 hblk
            go_roundw
            case rel => exact ⟨j + 1, by omega, by go_num, g', cap', L + 1, hv1, by rw [HM.out.1, HM.out.2, Nat.zero_add]; exact hmid'⟩
            case measure => simp [intOf]; omega
          | false =>
            obtain ⟨hm1, hm2⟩ := mark_false (bo O) 0 128 j hb
            have HM : Hid (mark (fl (bo O)) 0 128 (j + 1) = mark (fl (bo O)) 0 128 j ∧ bytesTo (bo O) (j + 1) = bytesTo (bo O) j) := ⟨hm1, hm2⟩
            clear hm1 hm2
            go_wp2
            go_roundw
            case rel => exact ⟨j + 1, by omega, by go_num, g, cap, L, rfl, by rw [HM.out.1, HM.out.2]; exact ⟨HL.out, hg1, hown, hbel⟩⟩
            case measure => simp [intOf]; omega
        · obtain rfl : j = 4 := by omega
          obtain ⟨m0, hm0⟩ : ∃ m0, m0 = mark (fl (bo O)) 0 128 4 := ⟨_, rfl⟩
          obtain ⟨b0, hb0⟩ : ∃ b0, b0 = bytesTo (bo O) 4 := ⟨_, rfl⟩
          have hmr0 := mark_range (fl (bo O)) 0 128 4 (by omega) (by omega)
          rw [← hm0] at hown hmr0
          rw [← hb0] at hown HL hbl
          have HM0 : Hid (m0 = mark (fl (bo O)) 0 128 4 ∧ b0 = bytesTo (bo O) 4) := ⟨hm0, hb0⟩
          clear hm0 hb0
          have hmid : Mid S w wr ys m0 b0 g cap L := ⟨HL.out, hg1, hown, hbel⟩
          clear hown hbel hg1 HL hj hj4
          go_wp2
          go_loopw [0, 45] (fun d i wr => ∃ j : Nat, j ≤ 3 ∧ i = .int .i64 j ∧ ∃ g cap L, d = .slice (some ⟨g, 0, none⟩) L cap ∧ Mid S w wr ys (mark (fl (szb c')) 4 m0 j) (b0 ++ bytesTo (szb c') j) g cap L)
            (fun _ i _ => 3 - (intOf i).toNat)
          case atStart => exact ⟨0, by omega, rfl, g, cap, _, rfl, by simpa [mark, bytesTo] using hmid⟩
          case round =>
            clear hmid hL1 hL2
            obtain ⟨j, hj, rfl, g, cap, L, rfl, hL, hg1, hown, hbel⟩ := hrel
            have hbl2 := bytesTo_len (szb c') j
            have hL1 : ys.length < L := by omega
            have hL2 : L ≤ ys.length + 8 := by simp at hL; omega
            have HL : Hid (L = ys.length + 1 + (b0 ++ bytesTo (szb c') j).length) := hL
            clear hL
            by_cases hj4 : j < 3
            · have hcell := own_mark_cell hown
              have hfz := hown.frozenAt ys.length
              have hLy : (ys.length : Int) < (L : Int) := by omega
              have hmr := mark_range (fl (szb c')) 4 m0 j hmr0.1 hmr0.2
              cases hb : (szb c' j != 0) with
              | true =>
                have hne : (c' != 65536) = true := by
                  rw [bne_iff_ne]; intro e; simp [szb, e] at hb
                have hbb : szb c' j = c' / 2 ^ (8 * j) % 256 := by simp only [bne_iff_ne] at hne; simp only [szb, if_neg hne, bo]
                obtain ⟨hm1, hm2⟩ := mark_true (szb c') 4 m0 j hb
                rw [hbb] at hb hm2
                have HM : Hid (mark (fl (szb c')) 4 m0 (j + 1) = bits .or .u8 (mark (fl (szb c')) 4 m0 j) (2 ^ (4 + j) % 256) ∧ bytesTo (szb c') (j + 1) = bytesTo (szb c') j ++ [c' / 2 ^ (8 * j) % 256]) := ⟨hm1, hm2⟩
                clear hm1 hm2 hbb
                obtain ⟨m, hm⟩ : ∃ m, m = mark (fl (szb c')) 4 m0 j := ⟨_, rfl⟩
                obtain ⟨bs, hbs⟩ : ∃ bs, bs = bytesTo (szb c') j := ⟨_, rfl⟩
                rw [← hm, ← hbs] at HM
                rw [← hm] at hmr hcell hown
                rw [← hbs] at hbl2 HL hown
                clear hm hbs
                have own2 := own_mark hown (bits .or .u8 m (2 ^ (4 + j) % 256))
                have hbel2 : Grew w (wr.setCell ⟨g, ys.length, none⟩ (.int .u8 (bits .or .u8 m (2 ^ (4 + j) % 256)))) S := hbel.setCell hg1 _
                clear hown
                have hsz := hbel.size
                go_wp2
                go_region
                go_wp2_with (at_builtin; refine wpList_append_mine _ rfl _ _ 22 rfl 0 5 i0 (.int .u8 0) 1 1 Trym.underlying22 hi hz0 hz1 hz2 rfl (by decide) (.slice (some ⟨g, 0, none⟩) L cap) L ((ys ++ bits .or .u8 m (2 ^ (4 + j) % 256) :: (b0 ++ bs)).map (Value.int .u8)) rfl ((own2.alloc _).drew) ⟨wr.heap.size, 0, none⟩ 1 1 [.int .u8 (c' / 2 ^ (8 * j) % 256)] rfl rfl (cell_new_drew _ _ _ _ _) (by simp [Value.oneCell']) (by unfold maxLen; omega) (by omega) (Nat.zero_le _) ?_; intro v1 w1 hown1 hgrow1 hblk)
                obtain ⟨g', cap', hv1, hmid'⟩ := mid_push HL.out hS2 hg1 ((hbel2.alloc _).drew) hown1 hgrow1 hblk
                clear hown1 hgrow1 own2 hbel2 hblk
                go_roundw
                case rel => (repeat apply Exists.intro); exact ⟨⟨j + 1, by omega, by go_num, g', cap', L + 1, hv1, by rw [HM.out.1, HM.out.2, ← List.append_assoc]; exact hmid'⟩, rfl⟩
                case measure => simp [intOf]; omega
              | false =>
                obtain ⟨hm1, hm2⟩ := mark_false (szb c') 4 m0 j hb
                have HM : Hid (mark (fl (szb c')) 4 m0 (j + 1) = mark (fl (szb c')) 4 m0 j ∧ bytesTo (szb c') (j + 1) = bytesTo (szb c') j) := ⟨hm1, hm2⟩
                clear hm1 hm2
                cases hne : (c' != 65536) with
                | true =>
                  have hbb : szb c' j = c' / 2 ^ (8 * j) % 256 := by simp only [bne_iff_ne] at hne; simp only [szb, if_neg hne, bo]
                  rw [hbb] at hb
                  clear hbb
                  go_wp2
                  go_roundw
                  case rel => exact ⟨j + 1, by omega, by go_num, g, cap, L, rfl, by rw [HM.out.1, HM.out.2]; exact ⟨HL.out, hg1, hown, hbel⟩⟩
                  case measure => simp [intOf]; omega
                | false =>
                  go_wp2
                  go_roundw
                  case rel => exact ⟨j + 1, by omega, by go_num, g, cap, L, rfl, by rw [HM.out.1, HM.out.2]; exact ⟨HL.out, hg1, hown, hbel⟩⟩
                  case measure => simp [intOf]; omega
            · obtain rfl : j = 3 := by omega
              go_wp2
              go_roundw
              case rel =>
                refine ⟨k + 1, by omega, ?_, ?_, ?_, hbel, fun x hx => by cases hx; exact hg1⟩
                · rw [HO.out, HP.out, wrap64_add, used_succ, Int.add_assoc]
                · rw [HS.out, HP.out, used_succ]; go_num
                · have e : xs ++ encTo o sz (k + 1) = ys ++ mark (fl (szb c')) 4 m0 3 :: (b0 ++ bytesTo (szb c') 3) := by
                    rw [HY.out, HM0.out.1, HM0.out.2, HP.out, HO.out]; simp [encTo, chunk, enc1, cmd]
                  have e2 : L = (ys ++ mark (fl (szb c')) 4 m0 3 :: (b0 ++ bytesTo (szb c') 3)).length := by
                    rw [HL.out]; simp; omega
                  rw [e, ← e2]
                  exact hown
              case measure => simp [intOf]; omega
    · have e : k = many sz := by have := many_lt sz k; omega
      subst e
      go_wp2
      go_ret
      refine ⟨_, rfl, ?_, hbel, hdS⟩
      have hy := HY.out
      subst hy
      simpa using hown

/-- ZZAppendCopy. -/
theorem f9_any (v : Value) (xs : List Int) (o sz : Int) (S : Nat → Prop) (w : World) (hS1 : ∀ k, v.ownBlock = some k → S k) (hS2 : ∀ k, w.heap.size ≤ k → S k) (hown0 : w.ownsRow 0 5 1 v xs.length (xs.map (Value.int .u8))) (ho1 : -9223372036854775808 ≤ o) (ho2 : o ≤ 9223372036854775807)
    (h1 : -9223372036854775808 ≤ sz) (h2 : sz ≤ 4294967296) (hn : xs.length ≤ 1048576) :
    Calls Trym.prog 9 #[v, .int .i64 o, .int .i64 sz] w fun e w' => ∃ v', e = .returned v' ∧
      w'.ownsRow 0 5 1 v' (xs ++ encTo o sz (many sz)).length ((xs ++ encTo o sz (many sz)).map (Value.int .u8)) ∧ Grew w w' S ∧ ∀ k, v'.ownBlock = some k → S k := by
  go_enter Trym.func9, Trym.ntmps9
  go_wp2_with (go_at_call 22; refine (f22_any v xs o sz S _ hS1 hS2 hown0 ho1 ho2 h1 h2 hn).mono ?_; rintro e w' ⟨v', rfl, hq1, hq2, hq3⟩)
  go_ret
  exact ⟨_, rfl, hq1, hq2, hq3⟩
end Go.Proofs.Qxb6601483aMods
