/-
  jaeger.appendTags (20), ZZAppendTags (11), bytesEqual (15).
-/
import Derived.Test.Qxb6601750aModsCols
import Derived.Deep.CutBlock
namespace Go.Proofs.Qxb6601750aMods
open Go.ChangeShapes Go.WideShapes Go.ChangeAt Go.RowKit

/-- The blocks that may turn inside a round: the row's own, and the new. -/
def Mine (u : Value) (W : World) (k : Nat) : Prop := u.ownBlock = some k ∨ W.heap.size ≤ k
theorem heap_setCells_size (g : Nat) : ∀ (vs : List Value) (o : Nat) (w : World), (w.setCells g o vs).heap.size = w.heap.size
  | [], _, _ => rfl
  | v :: r, o, w => by
    have h := heap_setCells_size g r (o + 1) (w.setCell ⟨g, o, none⟩ v)
    have h2 : (w.setCell ⟨g, o, none⟩ v).heap.size = w.heap.size := by simp [World.setCell]
    exact h.trans h2
theorem grew_setCells {S : Nat → Prop} {a : World} {g : Nat} (hg : S g) : ∀ (vs : List Value) (o : Nat) (w : World), Grew a w S → Grew a (w.setCells g o vs) S
  | [], _, _, h => h
  | v :: r, o, _, h => grew_setCells hg r (o + 1) _ (h.setCell (p := ⟨g, o, none⟩) hg v)
/-- The round's own variable. -/
theorem own_local {S : Nat → Prop} {w0 wr W : World} {u : Value} {ys : List Int} (H : Own S w0 wr u ys) (t : TagV)
    (hW : (wr.alloc (.cells #[.string ⟨#[]⟩, .string ⟨#[]⟩, .bool false] 44)).setCells wr.heap.size 0 (tagCells t) = W) :
    Own (Mine u W) W W u ys ∧ Grew w0 W S ∧ wr.heap.size < W.heap.size ∧ ¬ Mine u W wr.heap.size ∧ (∀ k, Mine u W k → S k) ∧ W.rangeAt wr.heap.size 0 (tagCells t) := by
  have hsz : W.heap.size = wr.heap.size + 1 := by rw [← hW, heap_setCells_size]; simp
  have hg1 : Grew wr W (fun k => wr.heap.size ≤ k) := by
    rw [← hW]
    exact grew_setCells (Nat.le_refl _) _ _ _ ((Grew.refl _ _).alloc _)
  have hu : ∀ k, u.ownBlock = some k → k < wr.heap.size := fun k hk => (H.own.lt k hk).2
  refine ⟨⟨owns_grew H.own hg1 (fun k hk h => by have := hu k hk; omega), Grew.refl _ _, fun k hk => .inl hk, fun k hk => .inr hk⟩, H.grew.trans (hg1.mono fun k hk h => ?_), by omega, ?_, ?_, ?_⟩
  · omega
  · rintro (h | h)
    · have := hu _ h; omega
    · omega
  · rintro k (h | h)
    · exact H.inS k h
    · exact H.new k (by have := H.grew.size; omega)
  · rw [← hW]
    refine World.rangeAt_setCells_same _ _ _ _ (fun j hj => ?_)
    have hj3 : j < 3 := hj
    refine ⟨?_, by simp⟩
    match j, hj3 with
    | 0, _ => simp
    | 1, _ => simp
    | 2, _ => simp
theorem own_back {S : Nat → Prop} {w0 W w' : World} {u v' : Value} {ys : List Int} (hg : Grew w0 W S) (hS : ∀ k, Mine u W k → S k) (hn : ∀ k, w0.heap.size ≤ k → S k) (H : Own (Mine u W) W w' v' ys) : Own S w0 w' v' ys :=
  ⟨H.own, hg.trans (H.grew.mono fun k _ h => hS k h), fun k hk => hS k (H.inS k hk), hn⟩

set_option maxRecDepth 100000 in
set_option maxHeartbeats 1000000 in
/-- jaeger.appendTags. -/
theorem f20_any (S : Nat → Prop) (w0 w : World) (v : Value) (xs : List Int) (a : Option Addr) (len cap : Nat) (T : List TagV) (H0 : Own S w0 w v xs) (hT : TagsIn w0 a len cap T) (hnS : ∀ x, a = some x → ¬ S x.block)
    (hb : xs.length + T.length + sumT T ≤ 1048576) :
    Calls Trym.prog 20 #[v, .slice a len cap] w (App S w0 (xs ++ tagsJ T)) := by
  have H : Hid (Own S w0 w v xs) := H0
  have HT : Hid (TagsIn w0 a len cap T) := hT
  have HL : Hid (∀ i : Nat, (xs ++ 91 :: body (T.take i)).length ≤ 100000000) := row_len xs T hb
  have HM : Hid (∀ t ∈ T, t.1.size + t.2.1.size ≤ 1048576) := fun t ht => by have := size_le_sum ht; omega
  have HB : Hid (xs.length + [91].length ≤ 1000000000000) := by show _ ≤ _; simp only [List.length_cons, List.length_nil]; omega
  have HE : Hid (xs ++ tagsJ T = (xs ++ 91 :: body T) ++ [93]) := by show _ = _; simp [tagsJ]
  have hlen : (len : Int) ≤ 1048576 := by have := hT.1; omega
  have HS : Hid (∀ x, a = some x → ¬ S x.block) := hnS
  have HN : Hid (∀ k, w0.heap.size ≤ k → S k) := H0.new
  clear H0 hT hb hnS
  go_enter Trym.func20, Trym.ntmps20
  go_wp2_with (at_builtin; go_must (refine wpList_own rfl _ _ 22 rfl v xs rfl (H.out.alloc _) _ _ [91] rfl (src_new w _ [91] 1 rfl) HB.out ?_); intro v1 w1 H1)
  clear HB H
  go_loopw [0, 12] (fun d iv wr => ∃ i : Nat, i ≤ len ∧ iv = .int .i64 i ∧ Own S w0 wr d (xs ++ 91 :: body (T.take i))) (fun _ i _ => len - (intOf i).toNat)
  case atStart => exact ⟨0, Nat.zero_le _, rfl, by simpa [body] using H1⟩
  case round =>
    clear H1
    obtain ⟨i, hi, rfl, H0⟩ := hrel
    have H : Hid (Own S w0 wr u0 (xs ++ 91 :: body (T.take i))) := H0
    clear H0
    by_cases hlt : i < len
    · have hii : (i : Int) < (len : Int) := by omega
      have hlT : Hid (len = T.length) := HT.out.1
      have hiT : Hid (i < T.length) := by rw [← hlT.out]; exact hlt
      obtain ⟨b, off, rfl, hbw, hc⟩ := tags_at HT.out (by rw [← hlT.out]; omega)
      have hS : ¬ S b := HS.out _ rfl
      have hcx : wr.rangeAt b (off + i * 3) (tagCells (T[i]'hiT.out)) := by
        obtain ⟨c1, c2, c3⟩ := hc i hiT.out
        intro j v hv
        have hgr := H.out.grew
        match j, hv with
        | 0, hv => simp only [tagCells, List.getElem?_cons_zero, Option.some.injEq] at hv; subst hv; exact (hgr.cell hbw hS).trans c1
        | 1, hv => simp only [tagCells, List.getElem?_cons_zero, List.getElem?_cons_succ, Option.some.injEq] at hv; subst hv; exact (hgr.cell hbw hS).trans c2
        | 2, hv => simp only [tagCells, List.getElem?_cons_zero, List.getElem?_cons_succ, Option.some.injEq] at hv; subst hv; exact (hgr.cell hbw hS).trans c3
        | j + 3, hv => simp [tagCells] at hv
      have hs := HM.out _ (List.getElem_mem hiT.out)
      have HR : Hid (xs ++ 91 :: body (T.take (i + 1)) = (xs ++ 91 :: body (T.take i)) ++ (if i = 0 then [] else [44]) ++ bs kKey ++ jtext (bs (T[i]'hiT.out).1) ++ tagEnd (T[i]'hiT.out)) := row_step xs T i hiT.out
      have hy := HL.out i
      obtain ⟨q, hq⟩ : ∃ q, q = T[i]'hiT.out := ⟨_, rfl⟩
      obtain ⟨ys, hys⟩ : ∃ ys, ys = xs ++ 91 :: body (T.take i) := ⟨_, rfl⟩
      rw [← hys] at HR H hy
      rw [← hq] at hcx hs HR
      obtain ⟨W, hW⟩ : ∃ W, (wr.alloc (.cells #[.string ⟨#[]⟩, .string ⟨#[]⟩, .bool false] 44)).setCells wr.heap.size 0 (tagCells q) = W := ⟨_, rfl⟩
      obtain ⟨HO, hg0, hlt2, hnm, hmS, hrg⟩ := own_local H.out q hW
      obtain ⟨gv, hgv⟩ : ∃ gv, gv = wr.heap.size := ⟨_, rfl⟩
      have HW : Hid ((wr.alloc (.cells #[.string ⟨#[]⟩, .string ⟨#[]⟩, .bool false] 44)).setCells wr.heap.size 0 (tagCells q) = W) := hW
      have hth : (wr.alloc (.cells #[.string ⟨#[]⟩, .string ⟨#[]⟩, .bool false] 44)).there wr.heap.size 0 3 := by
        intro j hj
        refine ⟨?_, by simp⟩
        match j, hj with
        | 0, _ => simp
        | 1, _ => simp
        | 2, _ => simp
      have HTH : Hid ((wr.alloc (.cells #[.string ⟨#[]⟩, .string ⟨#[]⟩, .bool false] 44)).there wr.heap.size 0 3) := hth
      have hro : ∀ v ∈ tagCells q, v.oneCell' = true := by simp [tagCells, Value.oneCell']
      have C1 : Hid (W.cell? ⟨wr.heap.size, 0, none⟩ = some (.string q.1)) := hrg 0 _ rfl
      have C2 : Hid (W.cell? ⟨wr.heap.size, 1, none⟩ = some (.string q.2.1)) := hrg 1 _ rfl
      have C3 : Hid (W.cell? ⟨wr.heap.size, 2, none⟩ = some (.bool q.2.2)) := hrg 2 _ rfl
      clear hrg hW hth hc
      obtain ⟨ks, vs, bb⟩ := q
      simp only at C1 C2 C3 hs HR
      have hj1 := jtext_len (bs ks)
      have hj2 := jtext_len (bs vs)
      rw [bs_length] at hj1 hj2
      have hks : Hid (ks.size ≤ 1048576) := by show _ ≤ _; omega
      have hvs : Hid (vs.size ≤ 1048576) := by show _ ≤ _; omega
      have B0 : Hid (ys.length + [44].length ≤ 1000000000000) := by show _ ≤ _; simp only [List.length_cons, List.length_nil]; omega
      have HOW : Hid (Own (Mine u0 W) W W u0 ys) := HO
      clear HO hq hys
      go_upto_region 5 with (first | (refine wpList_load_mid rfl 44 (.tmp 15) rfl b (off + i * 3) rfl (tagCells (ks, vs, bb)) _ hcx Trym.underlying44 rfl size44 ?_) | (refine wpList_store_mid rfl 44 (.tmp 6) (.tmp 16) rfl wr.heap.size 0 (tagCells (ks, vs, bb)).toArray rfl rfl HTH.out size44 (all_oneCell_toArray hro) ?_))
      rw [HW.out]
      clear hcx hro HTH hgv gv H HW
      by_cases h0 : i = 0
      · have h0i : ¬ (0 : Int) < (i : Int) := by omega
        rw [if_pos h0, List.append_nil] at HR
        have B1 : Hid ((ys).length + (bs kKey).length ≤ 1000000000000) := by show _ ≤ _; simp only [kKey_len]; omega
        have B2 : Hid ((ys ++ bs kKey).length ≤ 800000000000) := by show _ ≤ _; simp only [List.length_append, kKey_len]; omega
        have B3 : Hid ((ys ++ bs kKey ++ jtext (bs ks)).length + (bs kBool).length ≤ 1000000000000) := by show _ ≤ _; simp only [List.length_append, kKey_len, kBool_len]; omega
        have B4 : Hid ((ys ++ bs kKey ++ jtext (bs ks)).length + (bs kStr).length ≤ 1000000000000) := by show _ ≤ _; simp only [List.length_append, kKey_len, kStr_len]; omega
        have B5 : Hid ((ys ++ bs kKey ++ jtext (bs ks) ++ bs kStr).length ≤ 800000000000) := by show _ ≤ _; simp only [List.length_append, kKey_len, kStr_len]; omega
        have B6 : Hid ((ys ++ bs kKey ++ jtext (bs ks) ++ bs kStr ++ jtext (bs vs)).length + [125].length ≤ 1000000000000) := by show _ ≤ _; simp only [List.length_append, List.length_cons, List.length_nil, kKey_len, kStr_len]; omega
        clear h0 hy hj1 hj2 hs
        go_wp2_with (at_builtin; refine wpList_own rfl (.tmp 22) _ 9 rfl _ _ rfl HOW.out _ _ (bs kKey) rfl (src_str _ kKey) B1.out ?_; intro v2 w2 H2; have k1 := (H2.grew.cell (p := ⟨wr.heap.size, 0, none⟩) hlt2 hnm).trans C1.out)
        refine Calls.mono (f24_any (Mine u0 W) W _ _ _ ks H2 B2.out hks.out) ?_
        rintro e w' ⟨v3, rfl, H3⟩
        have k3 := (H3.grew.cell (p := ⟨wr.heap.size, 2, none⟩) hlt2 hnm).trans C3.out
        cases bb with
        | true =>
          go_wp2_with (at_builtin; refine wpList_own rfl (.tmp 30) _ 9 rfl _ _ rfl H3 _ _ (bs kBool) rfl (src_str _ kBool) B3.out ?_; intro v4 w4 H4)
          go_roundw
          case rel => exact ⟨i + 1, by omega, by go_num, own_back hg0 hmS HN.out (by rw [HR.out]; exact H4)⟩
          case measure => simp [intOf]; omega
        | false =>
          go_wp2_with (at_builtin; refine wpList_own rfl (.tmp 32) _ 9 rfl _ _ rfl H3 _ _ (bs kStr) rfl (src_str _ kStr) B4.out ?_; intro v4 w4 H4; have k2 := (H4.grew.cell (p := ⟨wr.heap.size, 1, none⟩) hlt2 hnm).trans C2.out)
          refine Calls.mono (f24_any (Mine u0 W) W _ _ _ vs H4 B5.out hvs.out) ?_
          rintro e w' ⟨v5, rfl, H5⟩
          go_wp2_with (at_builtin; refine wpList_own rfl (.tmp 38) (.tmp 39) 22 rfl _ _ rfl (H5.alloc _) _ _ [125] rfl (src_new _ _ [125] 1 rfl) B6.out ?_; intro v6 w6 H6)
          go_roundw
          case rel => exact ⟨i + 1, by omega, by go_num, own_back hg0 hmS HN.out (by rw [HR.out]; simpa [tagEnd] using H6)⟩
          case measure => simp [intOf]; omega
      · have h0i : (0 : Int) < (i : Int) := by omega
        rw [if_neg h0] at HR
        have B1 : Hid ((ys ++ [44]).length + (bs kKey).length ≤ 1000000000000) := by show _ ≤ _; simp only [List.length_append, List.length_cons, List.length_nil, kKey_len]; omega
        have B2 : Hid ((ys ++ [44] ++ bs kKey).length ≤ 800000000000) := by show _ ≤ _; simp only [List.length_append, List.length_cons, List.length_nil, kKey_len]; omega
        have B3 : Hid ((ys ++ [44] ++ bs kKey ++ jtext (bs ks)).length + (bs kBool).length ≤ 1000000000000) := by show _ ≤ _; simp only [List.length_append, List.length_cons, List.length_nil, kKey_len, kBool_len]; omega
        have B4 : Hid ((ys ++ [44] ++ bs kKey ++ jtext (bs ks)).length + (bs kStr).length ≤ 1000000000000) := by show _ ≤ _; simp only [List.length_append, List.length_cons, List.length_nil, kKey_len, kStr_len]; omega
        have B5 : Hid ((ys ++ [44] ++ bs kKey ++ jtext (bs ks) ++ bs kStr).length ≤ 800000000000) := by show _ ≤ _; simp only [List.length_append, List.length_cons, List.length_nil, kKey_len, kStr_len]; omega
        have B6 : Hid ((ys ++ [44] ++ bs kKey ++ jtext (bs ks) ++ bs kStr ++ jtext (bs vs)).length + [125].length ≤ 1000000000000) := by show _ ≤ _; simp only [List.length_append, List.length_cons, List.length_nil, kKey_len, kStr_len]; omega
        clear h0 hy hj1 hj2 hs
        go_wp2_with (first | (at_builtin; refine wpList_own rfl (.tmp 19) (.tmp 20) 22 rfl u0 _ rfl (HOW.out.alloc _) _ _ [44] rfl (src_new W _ [44] 1 rfl) B0.out ?_; intro v1 w1 H1) | (at_builtin; refine wpList_own rfl (.tmp 22) _ 9 rfl _ _ rfl H1 _ _ (bs kKey) rfl (src_str _ kKey) B1.out ?_; intro v2 w2 H2; have k1 := (H2.grew.cell (p := ⟨wr.heap.size, 0, none⟩) hlt2 hnm).trans C1.out))
        refine Calls.mono (f24_any (Mine u0 W) W _ _ _ ks H2 B2.out hks.out) ?_
        rintro e w' ⟨v3, rfl, H3⟩
        have k3 := (H3.grew.cell (p := ⟨wr.heap.size, 2, none⟩) hlt2 hnm).trans C3.out
        cases bb with
        | true =>
          go_wp2_with (at_builtin; refine wpList_own rfl (.tmp 30) _ 9 rfl _ _ rfl H3 _ _ (bs kBool) rfl (src_str _ kBool) B3.out ?_; intro v4 w4 H4)
          go_roundw
          case rel => exact ⟨i + 1, by omega, by go_num, own_back hg0 hmS HN.out (by rw [HR.out]; exact H4)⟩
          case measure => simp [intOf]; omega
        | false =>
          go_wp2_with (at_builtin; refine wpList_own rfl (.tmp 32) _ 9 rfl _ _ rfl H3 _ _ (bs kStr) rfl (src_str _ kStr) B4.out ?_; intro v4 w4 H4; have k2 := (H4.grew.cell (p := ⟨wr.heap.size, 1, none⟩) hlt2 hnm).trans C2.out)
          refine Calls.mono (f24_any (Mine u0 W) W _ _ _ vs H4 B5.out hvs.out) ?_
          rintro e w' ⟨v5, rfl, H5⟩
          go_wp2_with (at_builtin; refine wpList_own rfl (.tmp 38) (.tmp 39) 22 rfl _ _ rfl (H5.alloc _) _ _ [125] rfl (src_new _ _ [125] 1 rfl) B6.out ?_; intro v6 w6 H6)
          go_roundw
          case rel => exact ⟨i + 1, by omega, by go_num, own_back hg0 hmS HN.out (by rw [HR.out]; simpa [tagEnd] using H6)⟩
          case measure => simp [intOf]; omega
    · have e : i = T.length := by have := HT.out.1; omega
      have H2 : Own S w0 wr u0 (xs ++ 91 :: body T) := by
        have := H.out
        rwa [e, List.take_length] at this
      have HB : Hid ((xs ++ 91 :: body T).length + [93].length ≤ 1000000000000) := by
        have := HL.out T.length
        rw [List.take_length] at this
        show _ ≤ _
        simp only [List.length_cons, List.length_nil] at this ⊢
        omega
      clear H HL e
      go_wp2_with (at_builtin; go_must (refine wpList_own rfl _ _ 22 rfl u0 _ rfl (H2.alloc _) _ _ [93] rfl (src_new wr _ [93] 1 rfl) HB.out ?_); intro v1 w1 H1)
      go_ret
      exact ⟨_, rfl, by rw [HE.out]; exact H1⟩
end Go.Proofs.Qxb6601750aMods
