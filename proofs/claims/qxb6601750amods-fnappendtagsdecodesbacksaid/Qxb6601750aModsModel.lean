/-
  appendTagsModel (10).
-/
import Derived.Test.Qxb6601750aModsEsc
namespace Go.Proofs.Qxb6601750aMods
open Go.ChangeShapes Go.WideShapes Go.ChangeAt Go.RowKit

theorem kKey_len : (bs kKey).length = 7 := by rfl
theorem kBool_len : (bs kBool).length = 28 := by rfl
theorem kStr_len : (bs kStr).length = 25 := by rfl
/-- The text of the row ahead of tag i. -/
theorem row_len (xs : List Int) (T : List TagV) (hb : xs.length + T.length + sumT T ≤ 1048576) (i : Nat) : (xs ++ 91 :: body (T.take i)).length ≤ 100000000 := by
  have h1 := body_len (T.take i)
  have h2 : sumT (T.take i) ≤ sumT T := by
    have : sumT (T.take i) + sumT (T.drop i) = sumT T := by
      conv => rhs; rw [← List.take_append_drop i T]
      simp only [sumT, List.map_append, List.sum_append]
    omega
  have h3 : (T.take i).length ≤ T.length := by rw [List.length_take]; omega
  simp only [List.length_append, List.length_cons]
  omega
theorem size_le_sum {T : List TagV} {t : TagV} (h : t ∈ T) : t.1.size + t.2.1.size ≤ sumT T := by
  induction T with
  | nil => cases h
  | cons a r ih =>
    simp only [sumT, List.map_cons, List.sum_cons] at ih ⊢
    rcases List.mem_cons.1 h with rfl | h
    · omega
    · have := ih h; omega
theorem row_step (xs : List Int) (T : List TagV) (i : Nat) (h : i < T.length) : xs ++ 91 :: body (T.take (i + 1)) = (xs ++ 91 :: body (T.take i)) ++ (if i = 0 then [] else [44]) ++ bs kKey ++ jtext (bs T[i].1) ++ tagEnd T[i] := by
  have hl : (T.take i).length = i := by rw [List.length_take]; omega
  rw [List.take_succ_eq_append_getElem h, body_snoc, hl]
  simp [tagJ]

set_option maxRecDepth 100000 in
set_option maxHeartbeats 1000000 in
/-- appendTagsModel. -/
theorem f10_any (S : Nat → Prop) (w0 w : World) (v : Value) (xs : List Int) (a : Option Addr) (len cap : Nat) (T : List TagV) (H0 : Own S w0 w v xs) (hT : TagsIn w0 a len cap T) (hnS : ∀ x, a = some x → ¬ S x.block)
    (hb : xs.length + T.length + sumT T ≤ 1048576) :
    Calls Trym.prog 10 #[v, .slice a len cap] w (App S w0 (xs ++ tagsJ T)) := by
  have H : Hid (Own S w0 w v xs) := H0
  have HT : Hid (TagsIn w0 a len cap T) := hT
  have HL : Hid (∀ i : Nat, (xs ++ 91 :: body (T.take i)).length ≤ 100000000) := row_len xs T hb
  have HM : Hid (∀ t ∈ T, t.1.size + t.2.1.size ≤ 1048576) := fun t ht => by have := size_le_sum ht; omega
  have HB : Hid (xs.length + [91].length ≤ 1000000000000) := by show _ ≤ _; simp only [List.length_cons, List.length_nil]; omega
  have HE : Hid (xs ++ tagsJ T = (xs ++ 91 :: body T) ++ [93]) := by show _ = _; simp [tagsJ]
  have hlen : (len : Int) ≤ 1048576 := by have := hT.1; omega
  have HS : Hid (∀ x, a = some x → ¬ S x.block) := hnS
  clear H0 hT hb hnS
  go_enter Trym.func10, Trym.ntmps10
  go_wp2_with (at_builtin; go_must (refine wpList_own rfl _ _ 22 rfl v xs rfl (H.out.alloc _) _ _ [91] rfl (src_new w _ [91] 1 rfl) HB.out ?_); intro v1 w1 H1)
  clear HB H
  go_loopw [0, 5] (fun d iv wr => ∃ i : Nat, i ≤ len ∧ iv = .int .i64 i ∧ Own S w0 wr d (xs ++ 91 :: body (T.take i))) (fun _ i _ => len - (intOf i).toNat)
  case atStart => exact ⟨0, Nat.zero_le _, rfl, by simpa [body] using H1⟩
  case round =>
    clear H1
    obtain ⟨i, hi, rfl, H0⟩ := hrel
    have H : Hid (Own S w0 wr u0 (xs ++ 91 :: body (T.take i))) := H0
    clear H0
    by_cases hlt : i < len
    · have hii : (i : Int) < (len : Int) := by omega
      have hlT : Hid (len = T.length) := HT.out.1
      have hiT : Hid (i < T.length) := by rw [← hlT.out]; exact hlt
      obtain ⟨b, off, rfl, hbw, hc⟩ := tags_at HT.out (by rw [← hlT.out]; omega)
      obtain ⟨c1, c2, c3⟩ := hc i hiT.out
      have hs := HM.out _ (List.getElem_mem hiT.out)
      have HR : Hid (xs ++ 91 :: body (T.take (i + 1)) = (xs ++ 91 :: body (T.take i)) ++ (if i = 0 then [] else [44]) ++ bs kKey ++ jtext (bs (T[i]'hiT.out).1) ++ tagEnd (T[i]'hiT.out)) := row_step xs T i hiT.out
      have hy := HL.out i
      obtain ⟨q, hq⟩ : ∃ q, q = T[i]'hiT.out := ⟨_, rfl⟩
      obtain ⟨ys, hys⟩ : ∃ ys, ys = xs ++ 91 :: body (T.take i) := ⟨_, rfl⟩
      rw [← hys] at HR H hy
      rw [← hq] at c1 c2 c3 hs HR
      obtain ⟨ks, vs, bb⟩ := q
      simp only at c1 c2 c3 hs HR
      have hS : ¬ S b := HS.out _ rfl
      have C1 : Hid (w0.cell? ⟨b, off + i * 3, none⟩ = some (.string ks)) := c1
      have C2 : Hid (w0.cell? ⟨b, off + i * 3 + 1, none⟩ = some (.string vs)) := c2
      have C3 : Hid (w0.cell? ⟨b, off + i * 3 + 2, none⟩ = some (.bool bb)) := c3
      have hj1 := jtext_len (bs ks)
      have hj2 := jtext_len (bs vs)
      rw [bs_length] at hj1 hj2
      have hks : Hid (ks.size ≤ 1048576) := by show _ ≤ _; omega
      have hvs : Hid (vs.size ≤ 1048576) := by show _ ≤ _; omega
      have B0 : Hid (ys.length + [44].length ≤ 1000000000000) := by show _ ≤ _; simp only [List.length_cons, List.length_nil]; omega
      by_cases h0 : i = 0
      · have h0i : ¬ (0 : Int) < (i : Int) := by omega
        rw [if_pos h0, List.append_nil] at HR
        have B1 : Hid ((ys).length + (bs kKey).length ≤ 1000000000000) := by show _ ≤ _; simp only [kKey_len]; omega
        have B2 : Hid ((ys ++ bs kKey).length ≤ 800000000000) := by show _ ≤ _; simp only [List.length_append, kKey_len]; omega
        have B3 : Hid ((ys ++ bs kKey ++ jtext (bs ks)).length + (bs kBool).length ≤ 1000000000000) := by show _ ≤ _; simp only [List.length_append, kKey_len, kBool_len]; omega
        have B4 : Hid ((ys ++ bs kKey ++ jtext (bs ks)).length + (bs kStr).length ≤ 1000000000000) := by show _ ≤ _; simp only [List.length_append, kKey_len, kStr_len]; omega
        have B5 : Hid ((ys ++ bs kKey ++ jtext (bs ks) ++ bs kStr).length ≤ 800000000000) := by show _ ≤ _; simp only [List.length_append, kKey_len, kStr_len]; omega
        have B6 : Hid ((ys ++ bs kKey ++ jtext (bs ks) ++ bs kStr ++ jtext (bs vs)).length + [125].length ≤ 1000000000000) := by show _ ≤ _; simp only [List.length_append, List.length_cons, List.length_nil, kKey_len, kStr_len]; omega
        clear h0 hy hj1 hj2 hs hys hq hc c1 c2 c3
        go_wp2_with (at_builtin; refine wpList_own rfl (.tmp 20) _ 9 rfl _ _ rfl H.out _ _ (bs kKey) rfl (src_str _ kKey) B1.out ?_; intro v2 w2 H2; have k1 := (H2.grew.cell (p := ⟨b, off + i * 3, none⟩) hbw hS).trans C1.out)
        refine Calls.mono (f19_any S w0 _ _ _ ks H2 B2.out hks.out) ?_
        rintro e w' ⟨v3, rfl, H3⟩
        have k3 := (H3.grew.cell (p := ⟨b, off + i * 3 + 2, none⟩) hbw hS).trans C3.out
        cases bb with
        | true =>
          go_wp2_with (at_builtin; refine wpList_own rfl (.tmp 34) _ 9 rfl _ _ rfl H3 _ _ (bs kBool) rfl (src_str _ kBool) B3.out ?_; intro v4 w4 H4)
          go_roundw
          case rel => exact ⟨i + 1, by omega, by go_num, by rw [HR.out]; exact H4⟩
          case measure => simp [intOf]; omega
        | false =>
          go_wp2_with (at_builtin; refine wpList_own rfl (.tmp 36) _ 9 rfl _ _ rfl H3 _ _ (bs kStr) rfl (src_str _ kStr) B4.out ?_; intro v4 w4 H4; have k2 := (H4.grew.cell (p := ⟨b, off + i * 3 + 1, none⟩) hbw hS).trans C2.out)
          refine Calls.mono (f19_any S w0 _ _ _ vs H4 B5.out hvs.out) ?_
          rintro e w' ⟨v5, rfl, H5⟩
          go_wp2_with (at_builtin; refine wpList_own rfl (.tmp 45) (.tmp 46) 22 rfl _ _ rfl (H5.alloc _) _ _ [125] rfl (src_new _ _ [125] 1 rfl) B6.out ?_; intro v6 w6 H6)
          go_roundw
          case rel => exact ⟨i + 1, by omega, by go_num, by rw [HR.out]; simpa [tagEnd] using H6⟩
          case measure => simp [intOf]; omega
      · have h0i : (0 : Int) < (i : Int) := by omega
        rw [if_neg h0] at HR
        have B1 : Hid ((ys ++ [44]).length + (bs kKey).length ≤ 1000000000000) := by show _ ≤ _; simp only [List.length_append, List.length_cons, List.length_nil, kKey_len]; omega
        have B2 : Hid ((ys ++ [44] ++ bs kKey).length ≤ 800000000000) := by show _ ≤ _; simp only [List.length_append, List.length_cons, List.length_nil, kKey_len]; omega
        have B3 : Hid ((ys ++ [44] ++ bs kKey ++ jtext (bs ks)).length + (bs kBool).length ≤ 1000000000000) := by show _ ≤ _; simp only [List.length_append, List.length_cons, List.length_nil, kKey_len, kBool_len]; omega
        have B4 : Hid ((ys ++ [44] ++ bs kKey ++ jtext (bs ks)).length + (bs kStr).length ≤ 1000000000000) := by show _ ≤ _; simp only [List.length_append, List.length_cons, List.length_nil, kKey_len, kStr_len]; omega
        have B5 : Hid ((ys ++ [44] ++ bs kKey ++ jtext (bs ks) ++ bs kStr).length ≤ 800000000000) := by show _ ≤ _; simp only [List.length_append, List.length_cons, List.length_nil, kKey_len, kStr_len]; omega
        have B6 : Hid ((ys ++ [44] ++ bs kKey ++ jtext (bs ks) ++ bs kStr ++ jtext (bs vs)).length + [125].length ≤ 1000000000000) := by show _ ≤ _; simp only [List.length_append, List.length_cons, List.length_nil, kKey_len, kStr_len]; omega
        clear h0 hy hj1 hj2 hs hys hq hc c1 c2 c3
        go_wp2_with (first | (at_builtin; refine wpList_own rfl (.tmp 17) (.tmp 18) 22 rfl u0 _ rfl (H.out.alloc _) _ _ [44] rfl (src_new wr _ [44] 1 rfl) B0.out ?_; intro v1 w1 H1) | (at_builtin; refine wpList_own rfl (.tmp 20) _ 9 rfl _ _ rfl H1 _ _ (bs kKey) rfl (src_str _ kKey) B1.out ?_; intro v2 w2 H2; have k1 := (H2.grew.cell (p := ⟨b, off + i * 3, none⟩) hbw hS).trans C1.out))
        refine Calls.mono (f19_any S w0 _ _ _ ks H2 B2.out hks.out) ?_
        rintro e w' ⟨v3, rfl, H3⟩
        have k3 := (H3.grew.cell (p := ⟨b, off + i * 3 + 2, none⟩) hbw hS).trans C3.out
        cases bb with
        | true =>
          go_wp2_with (at_builtin; refine wpList_own rfl (.tmp 34) _ 9 rfl _ _ rfl H3 _ _ (bs kBool) rfl (src_str _ kBool) B3.out ?_; intro v4 w4 H4)
          go_roundw
          case rel => exact ⟨i + 1, by omega, by go_num, by rw [HR.out]; exact H4⟩
          case measure => simp [intOf]; omega
        | false =>
          go_wp2_with (at_builtin; refine wpList_own rfl (.tmp 36) _ 9 rfl _ _ rfl H3 _ _ (bs kStr) rfl (src_str _ kStr) B4.out ?_; intro v4 w4 H4; have k2 := (H4.grew.cell (p := ⟨b, off + i * 3 + 1, none⟩) hbw hS).trans C2.out)
          refine Calls.mono (f19_any S w0 _ _ _ vs H4 B5.out hvs.out) ?_
          rintro e w' ⟨v5, rfl, H5⟩
          go_wp2_with (at_builtin; refine wpList_own rfl (.tmp 45) (.tmp 46) 22 rfl _ _ rfl (H5.alloc _) _ _ [125] rfl (src_new _ _ [125] 1 rfl) B6.out ?_; intro v6 w6 H6)
          go_roundw
          case rel => exact ⟨i + 1, by omega, by go_num, by rw [HR.out]; simpa [tagEnd] using H6⟩
          case measure => simp [intOf]; omega
    · have e : i = T.length := by have := HT.out.1; omega
      have H2 : Own S w0 wr u0 (xs ++ 91 :: body T) := by
        have := H.out
        rwa [e, List.take_length] at this
      have HB : Hid ((xs ++ 91 :: body T).length + [93].length ≤ 1000000000000) := by
        have := HL.out T.length
        rw [List.take_length] at this
        show _ ≤ _
        simp only [List.length_cons, List.length_nil] at this ⊢
        omega
      clear H HL e
      go_wp2_with (at_builtin; go_must (refine wpList_own rfl _ _ 22 rfl u0 _ rfl (H2.alloc _) _ _ [93] rfl (src_new wr _ [93] 1 rfl) HB.out ?_); intro v1 w1 H1)
      go_ret
      exact ⟨_, rfl, by rw [HE.out]; exact H1⟩
end Go.Proofs.Qxb6601750aMods
