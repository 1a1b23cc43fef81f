/-
  bytesEqual (15) at two rows of the same bytes; FnAppendTagsMatchesModel (3).
-/
import Derived.Test.Qxb6601750aModsZz
namespace Go.Proofs.Qxb6601750aMods
open Go.ChangeShapes Go.WideShapes Go.ChangeAt Go.RowKit

/-- A row of bytes that is not empty, laid at a block's head. -/
theorem row_shape {w : World} {B : Nat} {v : Value} {zs : List Int} (h : w.ownsRow B 5 1 v zs.length (zs.map (Value.int .u8))) (hn : 0 < zs.length) :
    ∃ g cap, v = .slice (some ⟨g, 0, none⟩) zs.length cap ∧ g < w.heap.size ∧ ∀ j (_ : j < zs.length), w.cell? ⟨g, j, none⟩ = some (.int .u8 zs[j]) := by
  rcases h.2 with ⟨_, h0⟩ | ⟨g, cap, cur, rfl, hb, hg, _⟩
  · omega
  · refine ⟨g, cap, rfl, (Array.getElem?_eq_some_iff.1 hg).1, fun j hj => ?_⟩
    rw [h.cellAt j (by omega), List.getElem?_map, List.getElem?_eq_getElem hj]
    rfl

/-- bytesEqual at two rows of the same bytes. -/
theorem f15_same (g1 g2 c1 c2 : Nat) (zs : List Int) (w : World) (hb1 : g1 < w.heap.size) (hb2 : g2 < w.heap.size) (hl : zs.length ≤ 1000000000000)
    (h1 : ∀ j (_ : j < zs.length), w.cell? ⟨g1, j, none⟩ = some (.int .u8 zs[j])) (h2 : ∀ j (_ : j < zs.length), w.cell? ⟨g2, j, none⟩ = some (.int .u8 zs[j])) :
    Calls Trym.prog 15 #[.slice (some ⟨g1, 0, none⟩) zs.length c1, .slice (some ⟨g2, 0, none⟩) zs.length c2] w fun e w' => e = .returned (.bool true) ∧ Below w.heap.size w w' := by
  obtain ⟨n, hn⟩ : ∃ n, n = zs.length := ⟨_, rfl⟩
  have HN : Hid (n = zs.length) := hn
  have hln : (n : Int) ≤ 1000000000000 := by omega
  rw [← hn]
  clear hn hl
  go_enter Trym.func15, Trym.ntmps15
  go_wp2_with fail
  go_loopw [5] (fun i wr => ∃ k : Nat, k ≤ n ∧ i = .int .i64 k ∧ Below w.heap.size w wr) (fun i _ => n - (intOf i).toNat)
  case atStart => exact ⟨0, Nat.zero_le _, rfl, Below.refl _ _⟩
  case round =>
    obtain ⟨k, hk, rfl, hbel⟩ := hrel
    by_cases hlt : k < n
    · have hkz : k < zs.length := by rw [← HN.out]; exact hlt
      have e1 : wr.cell? ⟨g1, k, none⟩ = some (.int .u8 zs[k]) := (hbel.cell (by exact hb1)).trans (h1 k hkz)
      have e2 : wr.cell? ⟨g2, k, none⟩ = some (.int .u8 zs[k]) := (hbel.cell (by exact hb2)).trans (h2 k hkz)
      obtain ⟨z, hz⟩ : ∃ z, z = zs[k] := ⟨_, rfl⟩
      rw [← hz] at e1 e2
      have hki : (k : Int) < (n : Int) := by omega
      clear hz h1 h2 hkz
      go_wp2_with fail
      go_region
      all_goals
        go_wp2_with fail
        go_roundw
        case rel => exact ⟨k + 1, by omega, by go_num, hbel.drew⟩
        case measure => simp [intOf]; omega
    · go_wp2
      go_ret
      exact ⟨rfl, hbel⟩

theorem add_block (x : Addr) (j : Nat) : (x.add j).block = x.block := by unfold Addr.add; split <;> rfl
theorem TagsIn.grew {w w' : World} {S : Nat → Prop} {a : Option Addr} {len cap : Nat} {T : List TagV} (h : TagsIn w a len cap T) (hg : Grew w w' S) (hS : ∀ x, a = some x → ¬ S x.block) : TagsIn w' a len cap T := by
  refine ⟨h.1, h.2.1, h.2.2.1, fun x hx i hi => ?_⟩
  obtain ⟨c1, c2, c3⟩ := h.2.2.2 x hx i hi
  have mv : ∀ j v, w.cell? (x.add j) = some v → w'.cell? (x.add j) = some v := fun j v hv =>
    (hg.cell (World.block_lt_of_cell? w _ hv) (by rw [add_block]; exact hS x hx)).trans hv
  exact ⟨mv _ _ c1, mv _ _ c2, mv _ _ c3⟩
theorem TagsIn.later {w w' : World} {a : Option Addr} {len cap : Nat} {T : List TagV} (h : TagsIn w a len cap T) (hg : Below w.heap.size w w') : TagsIn w' a len cap T := by
  refine ⟨h.1, h.2.1, h.2.2.1, fun x hx i hi => ?_⟩
  obtain ⟨c1, c2, c3⟩ := h.2.2.2 x hx i hi
  have mv : ∀ j v, w.cell? (x.add j) = some v → w'.cell? (x.add j) = some v := fun j v hv => (hg.cell (World.block_lt_of_cell? w _ hv)).trans hv
  exact ⟨mv _ _ c1, mv _ _ c2, mv _ _ c3⟩
theorem ColIn.grew {w w' : World} {S : Nat → Prop} {g : Nat} {vs : List Value} (h : ColIn w g vs) (hg : Grew w w' S) (hS : ¬ S g) : ColIn w' g vs :=
  ⟨Nat.lt_of_lt_of_le h.1 hg.size, fun i hi => (hg.cell (by exact h.1) (by exact hS)).trans (h.2 i hi)⟩
theorem own_new {w w' : World} {B : Nat} {v : Value} {n : Nat} {xs : List Value} (h : w.ownsRow B 5 1 v n xs) (hb : Below w.heap.size w w') : w'.ownsRow B 5 1 v n xs :=
  owns_grew h (Grew.of_below hb) (fun k hk h2 => by have := (h.lt k hk).2; omega)
theorem own_zero {w : World} {B : Nat} {v : Value} {n : Nat} {xs : List Value} (h : w.ownsRow B 5 1 v n xs) : w.ownsRow 0 5 1 v n xs :=
  owns_base h (fun _ _ => Nat.zero_le _)

theorem below_trans {B : Nat} {a b c : World} (h : Below B a b) (k : Below B b c) : Below B a c :=
  ⟨k.os.trans h.os, k.tape.trans h.tape, k.output.trans h.output, Nat.le_trans h.size k.size, fun i hi => (k.block i hi).trans (h.block i hi)⟩
theorem below_less {B B' : Nat} {a b : World} (h : Below B a b) (hB : B' ≤ B) : Below B' a b := ⟨h.os, h.tape, h.output, h.size, fun i hi => h.block i (by omega)⟩

set_option maxRecDepth 100000 in
set_option maxHeartbeats 1000000 in
/-- FnAppendTagsMatchesModel answers true. -/
theorem f3_any (w : World) (a1 : Option Addr) (n1 c1 : Nat) (xs : List Int) (a2 : Option Addr) (n2 c2 : Nat) (T : List TagV) (h1 : RowIn w a1 n1 c1 xs) (h2 : TagsIn w a2 n2 c2 T)
    (hl1 : n1 ≤ 9223372036854775807) (hl2 : n2 ≤ 9223372036854775807) :
    Calls Trym.prog 3 #[.slice a1 n1 c1, .slice a2 n2 c2] w fun e w' => e = .returned (.bool true) ∧ Below w.heap.size w w' := by
  have HR : Hid (RowIn w a1 n1 c1 xs) := h1
  have HT : Hid (TagsIn w a2 n2 c2 T) := h2
  have HK : Hid (Calls Trym.prog 5 #[.slice a1 n1 c1, .slice a2 n2 c2] w fun e w' => AnsB (n1 + T.length + sumT T ≤ 1048576) e ∧ w = w') := f5_any a1 n1 c1 a2 n2 c2 T w h2 hl1 hl2
  have HL2 : Hid (n2 ≤ 9223372036854775807) := hl2
  clear h1 h2
  go_enter Trym.func3, Trym.ntmps3
  go_wp2_with fail
  refine Calls.mono HK.out ?_
  rintro e w' ⟨⟨bb, rfl, hbb⟩, rfl⟩
  cases bb with
  | false =>
    go_wp2_with fail
    go_ret
    exact ⟨rfl, Below.refl _ _⟩
  | true =>
    have hb := hbb rfl
    clear hbb HK
    have HB : Hid (xs.length + T.length + sumT T ≤ 1048576) := by have := HR.out.1; show _ ≤ _; omega
    have hn1 : (n1 : Int) ≤ 1048576 := by omega
    have HK : Hid (Calls Trym.prog 6 #[.int .i64 0, .int .i64 (n1 : Int)] w fun e w' => AnsInt e ∧ w = w') := f6_any 0 (n1 : Int) w (by omega) (by omega) (by omega) (by omega)
    clear hb
    go_wp2_with fail
    refine Calls.mono HK.out ?_
    rintro e w' ⟨⟨r, rfl, hr1, hr2⟩, rfl⟩
    clear HK
    have HK : Hid (Calls Trym.prog 7 #[.int .i64 r, .slice a2 n2 c2] w fun e w' => AnsInt e ∧ w = w') := f7_any r a2 n2 c2 T w HT.out HL2.out hr1 hr2
    go_wp2_with fail
    refine Calls.mono HK.out ?_
    rintro e w' ⟨⟨r2, rfl, hr3, hr4⟩, rfl⟩
    clear HK
    by_cases hbig : 1048576 < r2
    · go_wp2_with fail
      go_ret
      exact ⟨rfl, Below.refl _ _⟩
    · -- b = cloneBytes(b)
      have HK : Hid (Calls Trym.prog 8 #[.slice a1 n1 c1] w fun e w' => ∃ v, e = .returned v ∧ w'.ownsRow w.heap.size 5 1 v xs.length (xs.map (Value.int .u8)) ∧ Below w.heap.size w w') := f8_any a1 n1 c1 xs w HR.out (by have := HB.out; omega)
      go_wp2_with fail
      refine Calls.mono HK.out ?_
      rintro e w1 ⟨v1, rfl, own1, bel1⟩
      clear HK
      -- tags = cloneTags(tags)
      have HK : Hid (Calls Trym.prog 9 #[.slice a2 n2 c2] w1 (NewTags w1 T)) := f9_any a2 n2 c2 T w1 (HT.out.later bel1) (by have := HB.out; omega)
      go_wp2_with fail
      refine Calls.mono HK.out ?_
      rintro e w2 ⟨at2, ct2, rfl, tags2, blk2, bel2⟩
      clear HK HT
      -- cloneBytes(b)
      have own12 := own_new own1 bel2
      obtain ⟨av1, cv1, hv1, rin1⟩ := rowIn_of_owns own12
      subst hv1
      have HK : Hid (Calls Trym.prog 8 #[.slice av1 xs.length cv1] w2 fun e w' => ∃ v, e = .returned v ∧ w'.ownsRow w2.heap.size 5 1 v xs.length (xs.map (Value.int .u8)) ∧ Below w2.heap.size w2 w') := f8_any av1 xs.length cv1 xs w2 rin1 (by have := HB.out; omega)
      go_wp2_with fail
      refine Calls.mono HK.out ?_
      rintro e w3 ⟨v3, rfl, own3, bel3⟩
      clear HK rin1
      -- appendTagsModel
      have hv3 : ∀ k, v3.ownBlock = some k → w2.heap.size ≤ k := fun k hk => (own3.lt k hk).1
      have hat : ∀ x, at2 = some x → w1.heap.size ≤ x.block ∧ x.block < w2.heap.size := blk2
      have s12 := bel2.size
      have s23 := bel3.size
      have s01 := bel1.size
      have HK : Hid (Calls Trym.prog 10 #[v3, .slice at2 T.length ct2] w3 (App (Mine v3 w3) w3 (xs ++ tagsJ T))) :=
        f10_any (Mine v3 w3) w3 w3 v3 xs at2 T.length ct2 T ⟨own_zero own3, Grew.refl _ _, fun k hk => .inl hk, fun k hk => .inr hk⟩ (tags2.later bel3)
          (fun x hx h => by
            have h2 := hat x hx
            rcases h with h | h
            · have := hv3 _ h; omega
            · omega) HB.out
      go_wp2_with fail
      refine Calls.mono HK.out ?_
      rintro e w4 ⟨v4, rfl, H4⟩
      clear HK
      have bel4 : Below w2.heap.size w3 w4 := H4.grew.below s23 (fun k hk h => by
        rcases h with h | h
        · have := hv3 _ h; omega
        · omega)
      have bel24 : Below w2.heap.size w2 w4 := below_trans bel3 bel4
      have s34 := bel4.size
      have tags4 := tags2.later bel24
      -- tagKeys, tagValues, tagBooleans
      have HK : Hid (Calls Trym.prog 12 #[.slice at2 T.length ct2] w4 fun e w' => ∃ g, e = .returned (.slice (some ⟨g, 0, none⟩) T.length T.length) ∧ w'.ownsRow w4.heap.size 9 1 (.slice (some ⟨g, 0, none⟩) T.length T.length) T.length (T.map fun t => Value.string t.1) ∧ Below w4.heap.size w4 w') := f12_any at2 T.length ct2 T w4 tags4 (by have := HB.out; omega)
      go_wp2_with fail
      refine Calls.mono HK.out ?_
      rintro e w5 ⟨g5, rfl, own5, bel5⟩
      clear HK
      have tags5 := tags4.later bel5
      have s45 := bel5.size
      have HK : Hid (Calls Trym.prog 13 #[.slice at2 T.length ct2] w5 fun e w' => ∃ g, e = .returned (.slice (some ⟨g, 0, none⟩) T.length T.length) ∧ w'.ownsRow w5.heap.size 9 1 (.slice (some ⟨g, 0, none⟩) T.length T.length) T.length (T.map fun t => Value.string t.2.1) ∧ Below w5.heap.size w5 w') := f13_any at2 T.length ct2 T w5 tags5 (by have := HB.out; omega)
      go_wp2_with fail
      refine Calls.mono HK.out ?_
      rintro e w6 ⟨g6, rfl, own6, bel6⟩
      clear HK
      have tags6 := tags5.later bel6
      have s56 := bel6.size
      have HK : Hid (Calls Trym.prog 14 #[.slice at2 T.length ct2] w6 fun e w' => ∃ g, e = .returned (.slice (some ⟨g, 0, none⟩) T.length T.length) ∧ w'.ownsRow w6.heap.size 4 1 (.slice (some ⟨g, 0, none⟩) T.length T.length) T.length (T.map fun t => Value.bool t.2.2) ∧ Below w6.heap.size w6 w') := f14_any at2 T.length ct2 T w6 tags6 (by have := HB.out; omega)
      go_wp2_with fail
      refine Calls.mono HK.out ?_
      rintro e w7 ⟨g7, rfl, own7, bel7⟩
      clear HK
      have s67 := bel7.size
      have bel47 : Below w4.heap.size w4 w7 := below_trans bel5 (below_trans (below_less bel6 s45) (below_less bel7 (by omega)))
      have own17 : w7.ownsRow w.heap.size 5 1 (.slice av1 xs.length cv1) xs.length (xs.map (Value.int .u8)) := own_new own12 (below_trans bel24 (below_less bel47 (by omega)))
      have hv1 : ∀ k, (Value.slice av1 xs.length cv1).ownBlock = some k → w.heap.size ≤ k ∧ k < w1.heap.size := own1.lt
      have col5 : ColIn w7 g5 (T.map fun t => Value.string t.1) := (colIn_of_owns own5).below (below_trans bel6 (below_less bel7 s56)) (own5.lt g5 rfl).2
      have col6 : ColIn w7 g6 (T.map fun t => Value.string t.2.1) := (colIn_of_owns own6).below bel7 (own6.lt g6 rfl).2
      have col7 : ColIn w7 g7 (T.map fun t => Value.bool t.2.2) := colIn_of_owns own7
      have HK : Hid (Calls Trym.prog 11 #[.slice av1 xs.length cv1, .slice (some ⟨g5, 0, none⟩) T.length T.length, .slice (some ⟨g6, 0, none⟩) T.length T.length, .slice (some ⟨g7, 0, none⟩) T.length T.length] w7 (App (Mine (.slice av1 xs.length cv1) w7) w7 (xs ++ tagsJ T))) :=
        f11_any w7 _ xs g5 g6 g7 T (own_zero own17) col5 col6 col7 tags2.2.1 HB.out
      go_wp2_with fail
      refine Calls.mono HK.out ?_
      rintro e w8 ⟨v8, rfl, H8⟩
      clear HK
      -- bytesEqual
      have own48 : w8.ownsRow 0 5 1 v4 (xs ++ tagsJ T).length ((xs ++ tagsJ T).map (Value.int .u8)) :=
        owns_grew (own_new H4.own bel47) H8.grew (fun k hk h => by
          have h4 := (H4.own.lt k hk).2
          have h5 := H4.inS k hk
          rcases h with h | h
          · have := hv1 k h
            rcases h5 with h5 | h5
            · have := hv3 k h5; omega
            · omega
          · omega)
      have bel78 : Below w.heap.size w7 w8 := H8.grew.below (by omega) (fun k hk h => by
        rcases h with h | h
        · have := hv1 k h; omega
        · omega)
      have bel08 : Below w.heap.size w w8 := below_trans (below_trans bel1 (below_trans (below_less bel2 s01) (below_less bel24 (by omega)))) (below_trans (below_less bel47 (by omega)) bel78)
      have hne : 0 < (xs ++ tagsJ T).length := by simp only [List.length_append, tagsJ, List.length_cons]; omega
      obtain ⟨gg, cg, rfl, hgg, cellg⟩ := row_shape H8.own hne
      obtain ⟨gw, cw, rfl, hgw, cellw⟩ := row_shape own48 hne
      have hlen : (xs ++ tagsJ T).length ≤ 1000000000000 := by
        have h := row_len xs T HB.out T.length
        rw [List.take_length] at h
        simp only [List.length_append, tagsJ, List.length_cons, List.length_nil] at h ⊢
        omega
      have HK : Hid (Calls Trym.prog 15 #[.slice (some ⟨gg, 0, none⟩) (xs ++ tagsJ T).length cg, .slice (some ⟨gw, 0, none⟩) (xs ++ tagsJ T).length cw] w8 fun e w' => e = .returned (.bool true) ∧ Below w8.heap.size w8 w') := f15_same gg gw cg cw (xs ++ tagsJ T) w8 hgg hgw hlen cellg cellw
      obtain ⟨N, hN⟩ : ∃ N, N = (xs ++ tagsJ T).length := ⟨_, rfl⟩
      rw [← hN] at HK ⊢
      clear hN hlen hne cellg cellw own48 H8 H4
      go_wp2_with fail
      refine Calls.mono HK.out ?_
      rintro e w9 ⟨rfl, bel9⟩
      go_wp2_with fail
      go_ret
      exact ⟨rfl, below_trans bel08 (below_less bel9 (by have := bel08.size; omega))⟩
end Go.Proofs.Qxb6601750aMods
