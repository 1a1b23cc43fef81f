/-
  FnAppendTagsDecodesBack (4).
-/
import Derived.Test.Qxb6601750aModsTag
namespace Go.Proofs.Qxb6601750aMods
open Go.ChangeShapes Go.WideShapes Go.ChangeAt Go.RowKit

theorem tagJ_cons (t : TagV) : tagJ t = 123 :: (bs ⟨#[34, 107, 101, 121, 34, 58]⟩ ++ jtext (bs t.1) ++ tagEnd t) := rfl
theorem at_split (a b : List Int) : At (a ++ b) a.length b := ⟨by simp, by simp⟩
theorem body_split (l m : List TagV) : ∃ R, body (l ++ m) = body l ++ R := by
  cases l with
  | nil => exact ⟨body m, rfl⟩
  | cons a r => exact ⟨m.flatMap fun t => 44 :: tagJ t, by simp [body]⟩
/-- Where tag k's text begins. -/
def posT (xs : List Int) (T : List TagV) (k : Nat) : Nat := (xs ++ 91 :: body (T.take k)).length
theorem posT_zero (xs : List Int) (T : List TagV) : posT xs T 0 = xs.length + 1 := by simp [posT, body]
theorem at_end (xs : List Int) (T : List TagV) : At (xs ++ tagsJ T) (posT xs T T.length) ([93] ++ []) := by
  have h := at_split (xs ++ 91 :: body T) [93]
  unfold posT
  rw [List.take_length]
  simpa [tagsJ] using h
theorem at_tag (xs : List Int) (T : List TagV) (k : Nat) (h : k < T.length) : ∃ r, At (xs ++ tagsJ T) (posT xs T k) ((if k = 0 then [] else [44]) ++ (tagJ T[k] ++ r)) := by
  obtain ⟨R, hR⟩ := body_split (T.take (k + 1)) (T.drop (k + 1))
  rw [List.take_append_drop] at hR
  refine ⟨R ++ [93], ?_⟩
  have e : xs ++ tagsJ T = (xs ++ 91 :: body (T.take k)) ++ ((if k = 0 then [] else [44]) ++ (tagJ T[k] ++ (R ++ [93]))) := by
    have h1 := row_step xs T k h
    have h2 : xs ++ tagsJ T = (xs ++ 91 :: body (T.take (k + 1))) ++ (R ++ [93]) := by
      unfold tagsJ
      rw [hR]
      simp only [List.append_assoc, List.cons_append]
    rw [h2, h1]
    simp only [tagJ, List.append_assoc]
  rw [e]
  exact at_split _ _
theorem posT_succ (xs : List Int) (T : List TagV) (k : Nat) (h : k < T.length) : posT xs T (k + 1) = posT xs T k + (if k = 0 then 0 else 1) + (tagJ T[k]).length := by
  unfold posT
  rw [row_step xs T k h]
  simp only [tagJ, List.length_append]
  split <;> simp <;> omega

set_option maxRecDepth 100000 in
set_option maxHeartbeats 1000000 in
/-- FnAppendTagsDecodesBack answers true. -/
theorem f4_any (w : World) (a1 : Option Addr) (n1 c1 : Nat) (xs : List Int) (a2 : Option Addr) (n2 c2 : Nat) (T : List TagV) (h1 : RowIn w a1 n1 c1 xs) (h2 : TagsIn w a2 n2 c2 T)
    (hl1 : n1 ≤ 9223372036854775807) (hl2 : n2 ≤ 9223372036854775807) :
    Calls Trym.prog 4 #[.slice a1 n1 c1, .slice a2 n2 c2] w fun e w' => e = .returned (.bool true) ∧ Below w.heap.size w w' := by
  have HR : Hid (RowIn w a1 n1 c1 xs) := h1
  have HT : Hid (TagsIn w a2 n2 c2 T) := h2
  have HK : Hid (Calls Trym.prog 16 #[.slice a1 n1 c1, .slice a2 n2 c2] w fun e w' => AnsB (n1 + T.length + sumT T ≤ 1048576) e ∧ w = w') := f16_any a1 n1 c1 a2 n2 c2 T w h2 hl1 hl2
  have HL2 : Hid (n2 ≤ 9223372036854775807) := hl2
  clear h1 h2
  go_enter Trym.func4, Trym.ntmps4
  go_wp2_with fail
  refine Calls.mono HK.out ?_
  rintro e w' ⟨⟨bb, rfl, hbb⟩, rfl⟩
  cases bb with
  | false =>
    go_wp2_with fail
    go_ret
    exact ⟨rfl, Below.refl _ _⟩
  | true =>
    have hb := hbb rfl
    clear hbb HK
    have HB : Hid (xs.length + T.length + sumT T ≤ 1048576) := by have := HR.out.1; show _ ≤ _; omega
    have hn1 : (n1 : Int) ≤ 1048576 := by omega
    have HK : Hid (Calls Trym.prog 6 #[.int .i64 0, .int .i64 (n1 : Int)] w fun e w' => AnsInt e ∧ w = w') := f6_any 0 (n1 : Int) w (by omega) (by omega) (by omega) (by omega)
    clear hb
    go_wp2_with fail
    refine Calls.mono HK.out ?_
    rintro e w' ⟨⟨r, rfl, hr1, hr2⟩, rfl⟩
    clear HK
    have HK : Hid (Calls Trym.prog 7 #[.int .i64 r, .slice a2 n2 c2] w fun e w' => AnsInt e ∧ w = w') := f7_any r a2 n2 c2 T w HT.out HL2.out hr1 hr2
    go_wp2_with fail
    refine Calls.mono HK.out ?_
    rintro e w' ⟨⟨r2, rfl, hr3, hr4⟩, rfl⟩
    clear HK
    by_cases hbig : 1048576 < r2
    · go_wp2_with fail
      go_ret
      exact ⟨rfl, Below.refl _ _⟩
    · -- b = cloneBytes(b)
      have HK : Hid (Calls Trym.prog 8 #[.slice a1 n1 c1] w fun e w' => ∃ v, e = .returned v ∧ w'.ownsRow w.heap.size 5 1 v xs.length (xs.map (Value.int .u8)) ∧ Below w.heap.size w w') := f8_any a1 n1 c1 xs w HR.out (by have := HB.out; omega)
      go_wp2_with fail
      refine Calls.mono HK.out ?_
      rintro e w1 ⟨v1, rfl, own1, bel1⟩
      clear HK
      -- tags = cloneTags(tags)
      have HK : Hid (Calls Trym.prog 9 #[.slice a2 n2 c2] w1 (NewTags w1 T)) := f9_any a2 n2 c2 T w1 (HT.out.later bel1) (by have := HB.out; omega)
      go_wp2_with fail
      refine Calls.mono HK.out ?_
      rintro e w2 ⟨at2, ct2, rfl, tags2, blk2, bel2⟩
      clear HK HT
      -- cloneBytes(b)
      have own12 := own_new own1 bel2
      obtain ⟨av1, cv1, hv1, rin1⟩ := rowIn_of_owns own12
      subst hv1
      have HK : Hid (Calls Trym.prog 8 #[.slice av1 xs.length cv1] w2 fun e w' => ∃ v, e = .returned v ∧ w'.ownsRow w2.heap.size 5 1 v xs.length (xs.map (Value.int .u8)) ∧ Below w2.heap.size w2 w') := f8_any av1 xs.length cv1 xs w2 rin1 (by have := HB.out; omega)
      go_wp2_with fail
      refine Calls.mono HK.out ?_
      rintro e w3 ⟨v3, rfl, own3, bel3⟩
      clear HK rin1
      have s12 := bel2.size
      have s23 := bel3.size
      have s01 := bel1.size
      have tags4 := tags2.later bel3
      -- tagKeys, tagValues, tagBooleans
      have HK : Hid (Calls Trym.prog 12 #[.slice at2 T.length ct2] w3 fun e w' => ∃ g, e = .returned (.slice (some ⟨g, 0, none⟩) T.length T.length) ∧ w'.ownsRow w3.heap.size 9 1 (.slice (some ⟨g, 0, none⟩) T.length T.length) T.length (T.map fun t => Value.string t.1) ∧ Below w3.heap.size w3 w') := f12_any at2 T.length ct2 T w3 tags4 (by have := HB.out; omega)
      go_wp2_with fail
      refine Calls.mono HK.out ?_
      rintro e w5 ⟨g5, rfl, own5, bel5⟩
      clear HK
      have tags5 := tags4.later bel5
      have s35 := bel5.size
      have HK : Hid (Calls Trym.prog 13 #[.slice at2 T.length ct2] w5 fun e w' => ∃ g, e = .returned (.slice (some ⟨g, 0, none⟩) T.length T.length) ∧ w'.ownsRow w5.heap.size 9 1 (.slice (some ⟨g, 0, none⟩) T.length T.length) T.length (T.map fun t => Value.string t.2.1) ∧ Below w5.heap.size w5 w') := f13_any at2 T.length ct2 T w5 tags5 (by have := HB.out; omega)
      go_wp2_with fail
      refine Calls.mono HK.out ?_
      rintro e w6 ⟨g6, rfl, own6, bel6⟩
      clear HK
      have tags6 := tags5.later bel6
      have s56 := bel6.size
      have HK : Hid (Calls Trym.prog 14 #[.slice at2 T.length ct2] w6 fun e w' => ∃ g, e = .returned (.slice (some ⟨g, 0, none⟩) T.length T.length) ∧ w'.ownsRow w6.heap.size 4 1 (.slice (some ⟨g, 0, none⟩) T.length T.length) T.length (T.map fun t => Value.bool t.2.2) ∧ Below w6.heap.size w6 w') := f14_any at2 T.length ct2 T w6 tags6 (by have := HB.out; omega)
      go_wp2_with fail
      refine Calls.mono HK.out ?_
      rintro e w7 ⟨g7, rfl, own7, bel7⟩
      clear HK
      have s67 := bel7.size
      have bel37 : Below w3.heap.size w3 w7 := below_trans bel5 (below_trans (below_less bel6 s35) (below_less bel7 (by omega)))
      have own17 : w7.ownsRow w.heap.size 5 1 (.slice av1 xs.length cv1) xs.length (xs.map (Value.int .u8)) := own_new own12 (below_trans bel3 (below_less bel37 (by omega)))
      have hv1 : ∀ k, (Value.slice av1 xs.length cv1).ownBlock = some k → w.heap.size ≤ k ∧ k < w1.heap.size := own1.lt
      have col5 : ColIn w7 g5 (T.map fun t => Value.string t.1) := (colIn_of_owns own5).below (below_trans bel6 (below_less bel7 s56)) (own5.lt g5 rfl).2
      have col6 : ColIn w7 g6 (T.map fun t => Value.string t.2.1) := (colIn_of_owns own6).below bel7 (own6.lt g6 rfl).2
      have col7 : ColIn w7 g7 (T.map fun t => Value.bool t.2.2) := colIn_of_owns own7
      have HK : Hid (Calls Trym.prog 11 #[.slice av1 xs.length cv1, .slice (some ⟨g5, 0, none⟩) T.length T.length, .slice (some ⟨g6, 0, none⟩) T.length T.length, .slice (some ⟨g7, 0, none⟩) T.length T.length] w7 (App (Mine (.slice av1 xs.length cv1) w7) w7 (xs ++ tagsJ T))) :=
        f11_any w7 _ xs g5 g6 g7 T (own_zero own17) col5 col6 col7 tags2.2.1 HB.out
      go_wp2_with fail
      refine Calls.mono HK.out ?_
      rintro e w8 ⟨v8, rfl, H8⟩
      clear HK
      have own38 : w8.ownsRow 0 5 1 v3 xs.length (xs.map (Value.int .u8)) :=
        owns_grew (own_zero (own_new own3 bel37)) H8.grew (fun k hk h => by
          have h4 := own3.lt k hk
          rcases h with h | h
          · have := hv1 k h; omega
          · omega)
      have bel78 : Below w.heap.size w7 w8 := H8.grew.below (by omega) (fun k hk h => by
        rcases h with h | h
        · have := hv1 k h; omega
        · omega)
      have bel08 : Below w.heap.size w w8 := below_trans (below_trans bel1 (below_trans (below_less bel2 s01) (below_less bel3 (by omega)))) (below_trans (below_less bel37 (by omega)) bel78)
      have tags8 : TagsIn w8 at2 T.length ct2 T := ((tags4.later bel37)).grew H8.grew (fun x hx h => by
        have h2 := blk2 x hx
        rcases h with h | h
        · have := hv1 _ h; omega
        · omega)
      have hne : 0 < (xs ++ tagsJ T).length := by simp only [List.length_append, tagsJ, List.length_cons]; omega
      obtain ⟨gg, cg, rfl, hgg, cellg⟩ := row_shape H8.own hne
      have hlen : (xs ++ tagsJ T).length ≤ 1000000000000 := by
        have h := row_len xs T HB.out T.length
        rw [List.take_length] at h
        simp only [List.length_append, tagsJ, List.length_cons, List.length_nil] at h ⊢
        omega
      have GOT : Hid (GotIn w8 gg (xs ++ tagsJ T)) := ⟨hgg, cellg⟩
      obtain ⟨a3, c3, rfl, rin3⟩ := rowIn_of_owns own38
      have R3 : Hid (RowIn w8 a3 xs.length c3 xs) := rin3
      have T8 : Hid (TagsIn w8 at2 T.length ct2 T) := tags8
      have B8 : Hid (Below w.heap.size w w8) := bel08
      have HLn : Hid ((xs ++ tagsJ T).length ≤ 1000000000000) := hlen
      have HM : Hid (∀ t ∈ T, t.1.size + t.2.1.size ≤ 1048576) := fun t ht => by have := size_le_sum ht; have := HB.out; omega
      have hxi : (xs.length : Int) ≤ 1048576 := by have := HB.out; omega
      have hTi : (T.length : Int) ≤ 1048576 := by have := HB.out; omega
      obtain ⟨N, hN⟩ : ∃ N, N = (xs ++ tagsJ T).length := ⟨_, rfl⟩
      have HN : Hid (N = (xs ++ tagsJ T).length) := hN
      have hxN : (xs.length : Int) + 1 < (N : Int) := by rw [hN]; simp only [List.length_append, tagsJ, List.length_cons, List.length_nil]; omega
      have hNi : (N : Int) ≤ 1000000000000 := by omega
      have hle1 : decide ((N : Int) ≤ (xs.length : Int)) = false := by simp; omega
      have hle2 : decide (N ≤ xs.length) = false := by simp; omega
      rw [← hN]
      clear hN hlen hne cellg own38 H8 hgg rin3 tags8 bel08 bel78 own3 own1 own12 own17 own5 own6 own7 col5 col6 col7 tags2 tags4 tags5 tags6 bel1 bel2 bel3 bel5 bel6 bel7 bel37 blk2 hv1
      go_wp2_with fail
      go_loopw [8] (fun iv wr => ∃ i : Nat, i ≤ xs.length ∧ iv = .int .i64 i ∧ Below w8.heap.size w8 wr) (fun i _ => xs.length - (intOf i).toNat)
      case atStart => exact ⟨0, Nat.zero_le _, rfl, Below.refl _ _⟩
      case round =>
        obtain ⟨i, hi, rfl, hbel⟩ := hrel
        by_cases hlt : i < xs.length
        · have hgi : wr.cell? ⟨gg, i, none⟩ = some (.int .u8 xs[i]) := by
            have h := (GOT.out.below hbel GOT.out.1).2 i (by rw [List.length_append]; omega)
            rw [List.getElem_append_left hlt] at h
            exact h
          obtain ⟨x3, hx3, hsp0, hpi⟩ : ∃ x3 : Addr, a3 = some x3 ∧ x3.spot = none ∧ w8.cell? (x3.add i) = some (.int .u8 xs[i]) := by
            cases a3 with
            | none =>
              have := (R3.out.2.1 rfl).1
              rw [this] at hlt
              simp at hlt
            | some x3 =>
              have h := R3.out.2.2 x3 rfl i hlt
              refine ⟨x3, rfl, by simpa [Addr.add] using World.cell?_spot (R3.out.2.2 x3 rfl 0 (by omega)), ?_⟩
              rw [h]
              simp [hlt]
          subst hx3
          obtain ⟨b3, o3, sp3⟩ := x3
          simp only at hsp0
          subst hsp0
          rw [add_plain] at hpi
          have hb3 := World.block_lt_of_cell? w8 _ hpi
          have hpi' : wr.cell? ⟨b3, o3 + i, none⟩ = some (.int .u8 xs[i]) := (hbel.cell (by exact hb3)).trans hpi
          obtain ⟨z, hz⟩ : ∃ z, z = xs[i] := ⟨_, rfl⟩
          rw [← hz] at hgi hpi'
          have hii : (i : Int) < (xs.length : Int) := by omega
          have hiN : (i : Int) < (N : Int) := by omega
          clear hz hpi
          go_wp2_with fail
          go_region
          all_goals
            go_wp2_with fail
            go_roundw
            case rel => exact ⟨i + 1, by omega, by go_num, hbel.drew⟩
            case measure => simp [intOf]; omega
        · have hgx : wr.cell? ⟨gg, xs.length, none⟩ = some (.int .u8 91) := by
            have h := (GOT.out.below hbel GOT.out.1).2 xs.length (by simp [tagsJ])
            rw [List.getElem_append_right (Nat.le_refl _)] at h
            simpa [tagsJ] using h
          have hxl : (xs.length : Int) < (N : Int) := by omega
          have GOTr : Hid (GotIn wr gg (xs ++ tagsJ T)) := GOT.out.below hbel GOT.out.1
          have T8r : Hid (TagsIn wr at2 T.length ct2 T) := T8.out.later hbel
          have B8r : Hid (Below w.heap.size w wr) := below_trans B8.out (below_less hbel B8.out.size)
          clear GOT T8 B8 R3 hbel
          have ei : i = xs.length := by omega
          subst ei
          go_wp2_with fail
          go_loopw [9, 10, 11] (fun pv nv cv wx => Below wr.heap.size wr wx ∧ ∃ k : Nat, k ≤ T.length ∧ nv = .int .i64 k ∧ ((cv = .bool false ∧ pv = .int .i64 ((posT xs T k : Nat) : Int)) ∨ (cv = .bool true ∧ k = T.length ∧ pv = .int .i64 (N : Int)))) (fun pv _ _ _ => N - (intOf pv).toNat)
          case atStart => exact ⟨Below.refl _ _, 0, Nat.zero_le _, rfl, .inl ⟨rfl, by rw [posT_zero]; go_num⟩⟩
          case round =>
            obtain ⟨hbx, k, hk, rfl, hor⟩ := hrel
            have BX : Hid (Below w.heap.size w wr) := below_trans B8r.out (below_less hbx B8r.out.size)
            have GX : Hid (GotIn wr gg (xs ++ tagsJ T)) := GOTr.out.below hbx GOTr.out.1
            have TX : Hid (TagsIn wr at2 T.length ct2 T) := T8r.out.later hbx
            have HBX : Hid (Below _ _ wr) := hbx
            clear hgx hbx
            rcases hor with ⟨rfl, rfl⟩ | ⟨rfl, rfl, rfl⟩
            · by_cases hkT : k < T.length
              · obtain ⟨rr, hat⟩ := at_tag xs T k hkT
                have hsu := posT_succ xs T k hkT
                have hts := HM.out _ (List.getElem_mem hkT)
                obtain ⟨b2, o2, hat2, hb2, hc2⟩ := tags_at TX.out (by omega)
                subst hat2
                obtain ⟨k1, k2, k3⟩ := hc2 k hkT
                obtain ⟨t, ht⟩ : ∃ t, t = T[k] := ⟨_, rfl⟩
                rw [← ht] at hat hsu hts k1 k2 k3
                obtain ⟨q, hq⟩ : ∃ q, q = posT xs T k := ⟨_, rfl⟩
                rw [← hq] at hat hsu ⊢
                have hlq := hat.len
                have htl : 0 < (tagJ t).length := by unfold tagJ; rw [List.length_append, List.length_append, kKey_len]; omega
                have hkk : (k : Int) < (T.length : Int) := by omega
                have hkk2 : decide ((T.length : Int) ≤ (k : Int)) = false := by simp; omega
                have hkk3 : decide (T.length ≤ k) = false := by simp; omega
                clear hc2 ht hq
                by_cases h0 : k = 0
                · rw [if_pos h0, List.nil_append] at hat
                  rw [if_pos h0] at hsu
                  have kq : wr.cell? ⟨gg, q, none⟩ = some (.int .u8 123) := by
                    have h := hat
                    rw [tagJ_cons] at h
                    exact GX.out.at (t := [123]) h 0 (by simp)
                  have hat3 := hat
                  obtain ⟨q3, hq3⟩ : ∃ q3, q3 = q := ⟨_, rfl⟩
                  have h0i : ¬ (0 : Int) < (k : Int) := by omega
                  rw [← hq3] at hat3 kq ⊢
                  obtain ⟨q4, hq4⟩ : ∃ q4, q4 = posT xs T (k + 1) := ⟨_, rfl⟩
                  rw [← hq4] at hsu
                  have hl3 := hat3.len
                  rw [← HN.out, List.length_append] at hl3
                  have HK0 := f17_any gg cg (xs ++ tagsJ T) rr q3 q4 t wr GX.out hat3 HLn.out hts (by omega)
                  rw [← HN.out] at HK0
                  have HQ4 : Hid (q4 = posT xs T (k + 1)) := hq4
                  have g1 : (q : Int) < (N : Int) := by omega
                  have g2 : decide (q4 ≤ q3) = false := by simp; omega
                  have g3 : decide ((q4 : Int) ≤ (q3 : Int)) = false := by simp; omega
                  have g4 : q < q4 := by omega
                  have g6 : q3 < q4 := by omega
                  have g7 : (q3 : Int) < (N : Int) := by omega
                  have g5 : q4 ≤ N := by omega
                  obtain ⟨ks, vs, bb⟩ := t
                  simp only at k1 k2 k3
                  clear hat hat3 hl3 hq3 hq4 hsu hlq htl hts h0
                  cases bb with
                  | true =>
                    have HK : Hid (Calls Trym.prog 17 #[.slice (some ⟨gg, 0, none⟩) N cg, .int .i64 (q3 : Int)] wr fun e w' => e = .returned (.tuple #[.string ks, .string ⟨#[]⟩, .bool true, .int .i64 (q4 : Int), .bool true]) ∧ Below wr.heap.size wr w') := HK0
                    clear HK0
                    go_wp2_with fail
                    refine Calls.mono HK.out ?_
                    rintro e w9 ⟨rfl, bel9⟩
                    have k1n := (bel9.cell (p := ⟨b2, o2 + k * 3, none⟩) hb2).trans k1
                    have k2n := (bel9.cell (p := ⟨b2, o2 + k * 3 + 1, none⟩) hb2).trans k2
                    have k3n := (bel9.cell (p := ⟨b2, o2 + k * 3 + 2, none⟩) hb2).trans k3
                    go_wp2_with fail
                    go_roundw
                    case rel => exact ⟨below_trans HBX.out (below_less bel9 HBX.out.size), k + 1, by omega, by go_num, .inl ⟨rfl, by rw [HQ4.out]⟩⟩
                    case measure => simp [intOf]; omega
                  | false =>
                    have HK : Hid (Calls Trym.prog 17 #[.slice (some ⟨gg, 0, none⟩) N cg, .int .i64 (q3 : Int)] wr fun e w' => e = .returned (.tuple #[.string ks, .string vs, .bool false, .int .i64 (q4 : Int), .bool true]) ∧ Below wr.heap.size wr w') := HK0
                    clear HK0
                    go_wp2_with fail
                    refine Calls.mono HK.out ?_
                    rintro e w9 ⟨rfl, bel9⟩
                    have k1n := (bel9.cell (p := ⟨b2, o2 + k * 3, none⟩) hb2).trans k1
                    have k2n := (bel9.cell (p := ⟨b2, o2 + k * 3 + 1, none⟩) hb2).trans k2
                    have k3n := (bel9.cell (p := ⟨b2, o2 + k * 3 + 2, none⟩) hb2).trans k3
                    go_wp2_with fail
                    go_roundw
                    case rel => exact ⟨below_trans HBX.out (below_less bel9 HBX.out.size), k + 1, by omega, by go_num, .inl ⟨rfl, by rw [HQ4.out]⟩⟩
                    case measure => simp [intOf]; omega
                · rw [if_neg h0] at hat hsu
                  have kq : wr.cell? ⟨gg, q, none⟩ = some (.int .u8 44) := GX.out.at hat 0 (by simp)
                  have hat3 : At (xs ++ tagsJ T) (q + 1) (tagJ t ++ rr) := hat.step
                  obtain ⟨q3, hq3⟩ : ∃ q3, q3 = q + 1 := ⟨_, rfl⟩
                  have h0i : (0 : Int) < (k : Int) := by omega
                  rw [← hq3] at hat3
                  obtain ⟨q4, hq4⟩ : ∃ q4, q4 = posT xs T (k + 1) := ⟨_, rfl⟩
                  rw [← hq4] at hsu
                  have hl3 := hat3.len
                  rw [← HN.out, List.length_append] at hl3
                  have HK0 := f17_any gg cg (xs ++ tagsJ T) rr q3 q4 t wr GX.out hat3 HLn.out hts (by omega)
                  rw [← HN.out] at HK0
                  have HQ4 : Hid (q4 = posT xs T (k + 1)) := hq4
                  have g1 : (q : Int) < (N : Int) := by omega
                  have g2 : decide (q4 ≤ q3) = false := by simp; omega
                  have g3 : decide ((q4 : Int) ≤ (q3 : Int)) = false := by simp; omega
                  have g4 : q < q4 := by omega
                  have g6 : q3 < q4 := by omega
                  have g7 : (q3 : Int) < (N : Int) := by omega
                  have g5 : q4 ≤ N := by omega
                  have HQ3 : Hid (q3 = q + 1) := hq3
                  have hq3i : (q : Int) + 1 = (q3 : Int) := by omega
                  obtain ⟨ks, vs, bb⟩ := t
                  simp only at k1 k2 k3
                  clear hat hat3 hl3 hq3 hq4 hsu hlq htl hts h0
                  cases bb with
                  | true =>
                    have HK : Hid (Calls Trym.prog 17 #[.slice (some ⟨gg, 0, none⟩) N cg, .int .i64 (q3 : Int)] wr fun e w' => e = .returned (.tuple #[.string ks, .string ⟨#[]⟩, .bool true, .int .i64 (q4 : Int), .bool true]) ∧ Below wr.heap.size wr w') := HK0
                    clear HK0
                    go_wp2_with fail
                    try rw [hq3i]
                    refine Calls.mono HK.out ?_
                    rintro e w9 ⟨rfl, bel9⟩
                    have k1n := (bel9.cell (p := ⟨b2, o2 + k * 3, none⟩) hb2).trans k1
                    have k2n := (bel9.cell (p := ⟨b2, o2 + k * 3 + 1, none⟩) hb2).trans k2
                    have k3n := (bel9.cell (p := ⟨b2, o2 + k * 3 + 2, none⟩) hb2).trans k3
                    go_wp2_with fail
                    go_roundw
                    case rel => exact ⟨below_trans HBX.out (below_less bel9 HBX.out.size), k + 1, by omega, by go_num, .inl ⟨rfl, by rw [HQ4.out]⟩⟩
                    case measure => simp [intOf]; omega
                  | false =>
                    have HK : Hid (Calls Trym.prog 17 #[.slice (some ⟨gg, 0, none⟩) N cg, .int .i64 (q3 : Int)] wr fun e w' => e = .returned (.tuple #[.string ks, .string vs, .bool false, .int .i64 (q4 : Int), .bool true]) ∧ Below wr.heap.size wr w') := HK0
                    clear HK0
                    go_wp2_with fail
                    try rw [hq3i]
                    refine Calls.mono HK.out ?_
                    rintro e w9 ⟨rfl, bel9⟩
                    have k1n := (bel9.cell (p := ⟨b2, o2 + k * 3, none⟩) hb2).trans k1
                    have k2n := (bel9.cell (p := ⟨b2, o2 + k * 3 + 1, none⟩) hb2).trans k2
                    have k3n := (bel9.cell (p := ⟨b2, o2 + k * 3 + 2, none⟩) hb2).trans k3
                    go_wp2_with fail
                    go_roundw
                    case rel => exact ⟨below_trans HBX.out (below_less bel9 HBX.out.size), k + 1, by omega, by go_num, .inl ⟨rfl, by rw [HQ4.out]⟩⟩
                    case measure => simp [intOf]; omega
              · have ek : k = T.length := by omega
                subst ek
                have hat := at_end xs T
                have hlq := hat.len
                obtain ⟨q, hq⟩ : ∃ q, q = posT xs T T.length := ⟨_, rfl⟩
                rw [← hq] at hat hlq ⊢
                rw [← HN.out] at hlq
                have kq : wr.cell? ⟨gg, q, none⟩ = some (.int .u8 93) := GX.out.at hat 0 (by simp)
                have hqN : (q : Int) < (N : Int) := by simp at hlq; omega
                have hqN2 : Hid (N = q + 1) := by show _ = _; simpa using hlq
                clear hat hlq hq hkT
                go_wp2_with fail
                go_roundw
                case rel => exact ⟨HBX.out, T.length, Nat.le_refl _, rfl, .inr ⟨rfl, rfl, by have := hqN2.out; rw [this]; go_num⟩⟩
                case measure => simp [intOf]; omega
            · go_wp2
              go_ret
              exact ⟨rfl, BX.out⟩
end Go.Proofs.Qxb6601750aMods
