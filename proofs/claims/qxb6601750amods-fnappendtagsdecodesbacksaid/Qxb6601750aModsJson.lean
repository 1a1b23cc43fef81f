/-
  appendString[string] (27), AppendJSONString (24).
-/
import Derived.Test.Qxb6601750aModsModel
import Derived.Deep.RegionLaw
namespace Go.Proofs.Qxb6601750aMods
open Go.ChangeShapes Go.WideShapes Go.ChangeAt Go.RowKit

/-- The plain bytes between done and i. -/
def Plain (l : List Int) (d i : Nat) : Prop := ∀ c ∈ (l.take i).drop d, 32 ≤ c ∧ c ≠ 34 ∧ c ≠ 92
theorem dig_at : ∀ (n : Nat) (h : n < 16), (((⟨#[48, 49, 50, 51, 52, 53, 54, 55, 56, 57, 97, 98, 99, 100, 101, 102]⟩ : ByteArray)[n]'(by exact h)).toNat : Int) = hexd n := by decide
theorem dig (d : Int) (h0 : 0 ≤ d) (h1 : d < 16) (w : World) : ((if _h : 0 ≤ d ∧ d < 16 then
          Result.ok (Value.int IntKind.u8 (((⟨#[48, 49, 50, 51, 52, 53, 54, 55, 56, 57, 97, 98, 99, 100, 101, 102]⟩ : ByteArray)[d.toNat]'(by have : d.toNat < 16 := (by omega); exact this)).toNat)) w
        else Sem.run Trym.prog (boundsPanic IntKind.u8 d 16 BoundsCode.index) w).andThen
      fun a w' => Result.ok (Next.value a) w') = Result.ok (Next.value (.int .u8 (hexd d))) w := by
  rw [dif_pos ⟨h0, h1⟩]
  have e := dig_at d.toNat (by omega)
  rw [Int.toNat_of_nonneg h0] at e
  rw [e]
  rfl
theorem and15 (c : Int) (h0 : 0 ≤ c) (h1 : c < 256) : bits .and .u8 c 15 = c % 16 := by
  have h := u8_and c 15 h0 h1 (by omega) (by omega)
  have h2 : c.toNat &&& (15 : Int).toNat = c.toNat % 16 := Nat.and_two_pow_sub_one_eq_mod c.toNat 4
  rw [h, h2]
  omega
theorem step_own {S : Nat → Prop} {w0 w : World} {ops : Array Oper} {o : Oper} {a : Act} {K : Act → World → Prop} {Q : Exit → Act → World → Prop} {E : Prop} (hgd : o.guard = none) (s x : Operand) (tx : TypeId)
    (ho : o.op = .call { callee := .builtin .append, args := #[s, x], argTypes := #[22, tx] })
    (v : Value) (xs : List Int) (hv : a.eval s = v) (H : Own S w0 w v xs) (u : Value) (m : Nat) (new : List Int) (hx : a.eval x = u) (hs : Src Trym.prog 1 tx u m (new.map (Value.int .u8)) w)
    (hb : xs.length + new.length ≤ 1000000000000)
    (h : ∀ v' w', Own S w0 w' v' (xs ++ new) → K (a.put o.dst v') w') : if Region.wanted o (yielded ops a.tmps) = true then Oper.wp Trym.prog o a w K Q else E := by
  have hw : Region.wanted o (yielded ops a.tmps) = true := by simp [Region.wanted, hgd]
  rw [if_pos hw]
  exact wp_own s x tx ho v xs hv H u m new hx hs hb h
theorem plain_flat (l : List Int) (d i : Nat) (h : Plain l d i) (hd : d ≤ i) : (l.take i).flatMap esc = (l.take d).flatMap esc ++ (l.take i).drop d := by
  conv => lhs; rw [← List.take_append_drop d (l.take i), List.flatMap_append, flat_esc_plain _ h]
  rw [List.take_take, Nat.min_eq_left hd]
theorem plain_succ (l : List Int) (d i : Nat) (h : Plain l d i) (hi : i < l.length) (hd : d ≤ i) (hc : 32 ≤ l[i] ∧ l[i] ≠ 34 ∧ l[i] ≠ 92) : Plain l d (i + 1) := by
  intro c hcm
  rw [List.take_succ_eq_append_getElem hi, List.drop_append_of_le_length (by rw [List.length_take]; omega)] at hcm
  rcases List.mem_append.1 hcm with h1 | h1
  · exact h c h1
  · simp only [List.mem_singleton] at h1
    subst h1
    exact hc
theorem plain_self (l : List Int) (i : Nat) : Plain l i i := by
  intro c hc
  rw [List.drop_of_length_le (by rw [List.length_take]; omega)] at hc
  cases hc

set_option maxRecDepth 100000 in
set_option maxHeartbeats 1000000 in
/-- appendString[string]. -/
theorem f27_any (S : Nat → Prop) (w0 w : World) (v : Value) (xs : List Int) (s : ByteArray) (H0 : Own S w0 w v xs) (hb : xs.length ≤ 800000000000) (hs : s.size ≤ 1048576) :
    Calls Trym.prog 27 #[v, .string s] w (App S w0 (xs ++ jtext (bs s))) := by
  have H : Hid (Own S w0 w v xs) := H0
  clear H0
  have HB : Hid (xs.length + [34].length ≤ 1000000000000) := by show _ ≤ _; simp only [List.length_cons, List.length_nil]; omega
  have HL : Hid (∀ i : Nat, (xs ++ 34 :: ((bs s).take i).flatMap esc).length ≤ 900000000000) := fun i => by
    have h1 := flat_esc_len ((bs s).take i)
    have h2 : ((bs s).take i).length ≤ s.size := by rw [List.length_take, bs_length]; omega
    simp only [List.length_append, List.length_cons]
    omega
  have HE : Hid (xs ++ jtext (bs s) = (xs ++ 34 :: (bs s).flatMap esc) ++ [34]) := by show _ = _; simp [jtext]
  have hs' : (s.size : Int) ≤ 1048576 := by omega
  clear hs hb
  go_enter Trym.func27, Trym.ntmps27
  go_wp2_with (at_builtin; go_must (refine wpList_own rfl _ _ 22 rfl v xs rfl (H.out.alloc _) _ _ [34] rfl (src_new w _ [34] 1 rfl) HB.out ?_); intro v1 w1 H1)
  clear HB H
  go_loopw [0, 5, 6] (fun bv dv iv wr => ∃ i d : Nat, d ≤ i ∧ i ≤ s.size ∧ dv = .int .i64 d ∧ iv = .int .i64 i ∧ Plain (bs s) d i ∧ Own S w0 wr bv (xs ++ 34 :: ((bs s).take d).flatMap esc)) (fun _ _ i _ => s.size - (intOf i).toNat)
  case atStart => exact ⟨0, 0, Nat.le_refl _, Nat.zero_le _, rfl, rfl, plain_self _ _, by simpa using H1⟩
  case round =>
    clear H1
    obtain ⟨i, d, hd, hi, rfl, rfl, hp, H0⟩ := hrel
    have H : Hid (Own S w0 wr u0 (xs ++ 34 :: ((bs s).take d).flatMap esc)) := H0
    have HP : Hid (Plain (bs s) d i) := hp
    clear H0 hp
    by_cases hlt : i < s.size
    · have hii : (i : Int) < (s.size : Int) := by omega
      have hc0 : 0 ≤ (s[i].toNat : Int) := by omega
      have hc1 : (s[i].toNat : Int) < 256 := by have := s[i].toNat_lt; omega
      by_cases hpl : 32 ≤ (s[i].toNat : Int) ∧ (s[i].toNat : Int) ≠ 34 ∧ (s[i].toNat : Int) ≠ 92
      · obtain ⟨p1, p2, p3⟩ := hpl
        have q2 : ((s[i].toNat : Int) != 34) = true := by simpa using p2
        have q3 : ((s[i].toNat : Int) != 92) = true := by simpa using p3
        clear p2 p3
        go_wp2_with fail
        go_roundw
        case rel => exact ⟨i + 1, d, by omega, by omega, rfl, by go_num, plain_succ _ _ _ HP.out (by rw [bs_length]; exact hlt) hd (by rw [bs_getElem s i hlt]; exact ⟨p1, by simpa using q2, by simpa using q3⟩), H.out⟩
        case measure => simp [intOf]; omega
      · have hdi : (d : Int) ≤ (i : Int) := by omega
        have HX : Hid (∀ ys, xs ++ 34 :: ((bs s).take d).flatMap esc ++ bs (s.extract d i) ++ esc (s[i].toNat : Int) = ys → xs ++ 34 :: ((bs s).take (i + 1)).flatMap esc = ys) := by
          rintro ys rfl
          rw [take_flat _ i (by rw [bs_length]; exact hlt), plain_flat _ d i HP.out hd, bs_extract, bs_getElem s i hlt]
          simp only [List.append_assoc, List.cons_append]
        have hl1 : (xs ++ 34 :: ((bs s).take d).flatMap esc).length + (bs (s.extract d i)).length ≤ 900000000000 := by
          have := HL.out i
          rw [plain_flat _ d i HP.out hd] at this
          rw [bs_extract]
          simp only [List.length_append, List.length_cons] at this ⊢
          omega
        have B1 : Hid ((xs ++ 34 :: ((bs s).take d).flatMap esc).length + (bs (s.extract d i)).length ≤ 1000000000000) := by show _ ≤ _; omega
        have B2 : Hid (∀ x y : Int, (xs ++ 34 :: ((bs s).take d).flatMap esc ++ bs (s.extract d i)).length + [x, y].length ≤ 1000000000000) := fun x y => by
          simp only [List.length_append, List.length_cons, List.length_nil] at hl1 ⊢; omega
        have B6 : Hid (∀ x y z t u v : Int, (xs ++ 34 :: ((bs s).take d).flatMap esc ++ bs (s.extract d i)).length + [x, y, z, t, u, v].length ≤ 1000000000000) := fun x y z t u v => by
          simp only [List.length_append, List.length_cons, List.length_nil] at hl1 ⊢; omega
        clear hl1 HL
        by_cases c34 : (s[i].toNat : Int) = 34
        · clear hc0 hc1 hpl
          go_wp2_with (first | (at_builtin; refine wpList_own rfl (.tmp 30) (.tmp 34) 9 rfl u0 _ rfl H.out _ _ (bs (s.extract d i)) rfl (src_str _ _) B1.out ?_; intro v2 w2 H2) | (at_builtin; refine wpList_own rfl (.tmp 49) (.tmp 51) 22 rfl _ _ rfl (H2.alloc _) _ _ [92, 34] rfl (src_new _ _ [92, 34] 2 rfl) (B2.out _ _) ?_; intro v3 w3 H3))
          go_roundw
          case rel => exact ⟨i + 1, i + 1, Nat.le_refl _, by omega, by go_num, by go_num, plain_self _ _, by rw [HX.out _ rfl, c34]; exact H3⟩
          case measure => simp [intOf]; omega
        by_cases c92 : (s[i].toNat : Int) = 92
        · clear hc0 hc1 hpl
          go_wp2_with (first | (at_builtin; refine wpList_own rfl (.tmp 30) (.tmp 34) 9 rfl u0 _ rfl H.out _ _ (bs (s.extract d i)) rfl (src_str _ _) B1.out ?_; intro v2 w2 H2) | (at_builtin; refine wpList_own rfl (.tmp 49) (.tmp 51) 22 rfl _ _ rfl (H2.alloc _) _ _ [92, 92] rfl (src_new _ _ [92, 92] 2 rfl) (B2.out _ _) ?_; intro v3 w3 H3))
          go_roundw
          case rel => exact ⟨i + 1, i + 1, Nat.le_refl _, by omega, by go_num, by go_num, plain_self _ _, by rw [HX.out _ rfl, c92]; exact H3⟩
          case measure => simp [intOf]; omega
        by_cases c10 : (s[i].toNat : Int) = 10
        · clear hc0 hc1 hpl
          go_wp2_with (first | (at_builtin; refine wpList_own rfl (.tmp 30) (.tmp 34) 9 rfl u0 _ rfl H.out _ _ (bs (s.extract d i)) rfl (src_str _ _) B1.out ?_; intro v2 w2 H2) | (at_builtin; refine wpList_own rfl (.tmp 55) (.tmp 56) 22 rfl _ _ rfl (H2.alloc _) _ _ [92, 110] rfl (src_new _ _ [92, 110] 2 rfl) (B2.out _ _) ?_; intro v3 w3 H3))
          go_roundw
          case rel => exact ⟨i + 1, i + 1, Nat.le_refl _, by omega, by go_num, by go_num, plain_self _ _, by rw [HX.out _ rfl, c10]; exact H3⟩
          case measure => simp [intOf]; omega
        by_cases c13 : (s[i].toNat : Int) = 13
        · clear hc0 hc1 hpl
          go_wp2_with (first | (at_builtin; refine wpList_own rfl (.tmp 30) (.tmp 34) 9 rfl u0 _ rfl H.out _ _ (bs (s.extract d i)) rfl (src_str _ _) B1.out ?_; intro v2 w2 H2) | (at_builtin; refine wpList_own rfl (.tmp 60) (.tmp 61) 22 rfl _ _ rfl (H2.alloc _) _ _ [92, 114] rfl (src_new _ _ [92, 114] 2 rfl) (B2.out _ _) ?_; intro v3 w3 H3))
          go_roundw
          case rel => exact ⟨i + 1, i + 1, Nat.le_refl _, by omega, by go_num, by go_num, plain_self _ _, by rw [HX.out _ rfl, c13]; exact H3⟩
          case measure => simp [intOf]; omega
        by_cases c9 : (s[i].toNat : Int) = 9
        · clear hc0 hc1 hpl
          go_wp2_with (first | (at_builtin; refine wpList_own rfl (.tmp 30) (.tmp 34) 9 rfl u0 _ rfl H.out _ _ (bs (s.extract d i)) rfl (src_str _ _) B1.out ?_; intro v2 w2 H2) | (at_builtin; refine wpList_own rfl (.tmp 65) (.tmp 66) 22 rfl _ _ rfl (H2.alloc _) _ _ [92, 116] rfl (src_new _ _ [92, 116] 2 rfl) (B2.out _ _) ?_; intro v3 w3 H3))
          go_roundw
          case rel => exact ⟨i + 1, i + 1, Nat.le_refl _, by omega, by go_num, by go_num, plain_self _ _, by rw [HX.out _ rfl, c9]; exact H3⟩
          case measure => simp [intOf]; omega
        have hc32 : (s[i].toNat : Int) < 32 := by omega
        have HA : Hid (bits .and .u8 (s[i].toNat : Int) 15 = (s[i].toNat : Int) % 16) := and15 _ hc0 hc1
        have HE6 : Hid (esc (s[i].toNat : Int) = [92, 117, 48, 48, hexd ((s[i].toNat : Int) / 16), hexd ((s[i].toNat : Int) % 16)]) := by
          show _ = _
          unfold esc; rw [if_neg c34, if_neg c92, if_neg c10, if_neg c13, if_neg c9, if_pos hc32]
        clear hpl
        go_wp2_with (at_builtin; refine wpList_own rfl (.tmp 30) (.tmp 34) 9 rfl u0 _ rfl H.out _ _ (bs (s.extract d i)) rfl (src_str _ _) B1.out ?_; intro v2 w2 H2)
        refine wp_region_held (S := fun _ : World => True) (by kernel_rfl) ?_
        change wpAnyH _ _ _ _ _ _ _ _ (World.drew _)
        refine wpAnyH_take (i := 0) (v := ?_) rfl (by kernel_rfl) (by kernel_rfl) (by kernel_rfl) (fun _ _ _ h => h) (Or.inl ⟨by rfl, ?_⟩) trivial ?_
        rotate_left
        · intro w' hw'; go_simp; try with_reducible rfl
        refine wpAnyH_take (i := 1) (v := ?_) rfl (by kernel_rfl) (by kernel_rfl) (by kernel_rfl) (fun _ _ _ h => h) (Or.inl ⟨by rfl, ?_⟩) trivial ?_
        rotate_left
        · intro w' hw'; go_simp; try with_reducible rfl
        refine wpAnyH_take (i := 2) (v := ?_) rfl (by kernel_rfl) (by kernel_rfl) (by kernel_rfl) (fun _ _ _ h => h) (Or.inl ⟨by rfl, ?_⟩) trivial ?_
        rotate_left
        · intro w' hw'; go_simp; try with_reducible rfl
        refine wpAnyH_take (i := 3) (v := .int .u8 (hexd ((s[i].toNat : Int) / 16))) rfl (by kernel_rfl) (by kernel_rfl) (by kernel_rfl) (fun _ _ _ h => h) (Or.inl ⟨by rfl, ?_⟩) trivial ?_
        · intro w' hw'; go_simp; exact dig _ (by omega) (by omega) w'
        refine wpAnyH_take (i := 4) (v := ?_) rfl (by kernel_rfl) (by kernel_rfl) (by kernel_rfl) (fun _ _ _ h => h) (Or.inl ⟨by rfl, ?_⟩) trivial ?_
        rotate_left
        · intro w' hw'; go_simp; try with_reducible rfl
        refine wpAnyH_take (i := 5) (v := ?_) rfl (by kernel_rfl) (by kernel_rfl) (by kernel_rfl) (fun _ _ _ h => h) (Or.inl ⟨by rfl, ?_⟩) trivial ?_
        rotate_left
        · intro w' hw'; go_simp; try with_reducible rfl
        refine wpAnyH_take (i := 6) (v := .int .u8 (hexd ((s[i].toNat : Int) % 16))) rfl (by kernel_rfl) (by kernel_rfl) (by kernel_rfl) (fun _ _ _ h => h) (Or.inl ⟨by rfl, ?_⟩) trivial ?_
        · intro w' hw'; go_simp; rw [HA.out]; exact dig _ (by omega) (by omega) w'
        go_simp
        refine held_one (i := 7) rfl (by kernel_rfl) rfl ?_
        go_simp
        refine held_one (i := 8) rfl (by kernel_rfl) rfl ?_
        refine wp_own (.tmp 37) (.tmp 44) 22 rfl v2 _ rfl (H2.alloc _).drew _ _ [92, 117, 48, 48, hexd ((s[i].toNat : Int) / 16), hexd ((s[i].toNat : Int) % 16)] rfl (src_new w2.drew _ [92, 117, 48, 48, hexd ((s[i].toNat : Int) / 16), hexd ((s[i].toNat : Int) % 16)] 6 rfl) (B6.out _ _ _ _ _ _) ?_
        intro v3 w3 H3
        refine ⟨trivial, ?_⟩
        go_simp
        refine held_one (i := 9) rfl (by kernel_rfl) rfl ?_
        go_simp
        refine wpAnyH_done (by kernel_rfl) ?_ _
        go_wp2_with fail
        go_roundw
        case rel => exact ⟨i + 1, i + 1, Nat.le_refl _, by omega, by go_num, by go_num, plain_self _ _, by rw [HX.out _ rfl, HE6.out]; exact H3⟩
        case measure => simp [intOf]; omega
    · have e : i = s.size := by omega
      subst e
      have hdi : (d : Int) ≤ (s.size : Int) := by omega
      have HX : Hid (xs ++ 34 :: (bs s).flatMap esc = xs ++ 34 :: ((bs s).take d).flatMap esc ++ bs (s.extract d s.size)) := by
        have h1 := plain_flat _ d s.size HP.out hd
        rw [List.take_of_length_le (i := s.size) (by rw [bs_length]; omega)] at h1
        show _ = _
        rw [h1, bs_extract, List.take_of_length_le (i := s.size) (by rw [bs_length]; omega)]
        simp only [List.append_assoc, List.cons_append]
      have hl1 := HL.out s.size
      rw [List.take_of_length_le (by rw [bs_length]; omega), HX.out, List.length_append] at hl1
      have B1 : Hid ((xs ++ 34 :: ((bs s).take d).flatMap esc).length + (bs (s.extract d s.size)).length ≤ 1000000000000) := by show _ ≤ _; omega
      have B2 : Hid ((xs ++ 34 :: ((bs s).take d).flatMap esc ++ bs (s.extract d s.size)).length + [34].length ≤ 1000000000000) := by
        show _ ≤ _
        rw [List.length_append]; simp only [List.length_nil, List.length_cons] at hl1 ⊢; omega
      clear HL hl1
      go_wp2_with (first | (at_builtin; refine wpList_own rfl (.tmp 70) (.tmp 73) 9 rfl u0 _ rfl H.out _ _ (bs (s.extract d s.size)) rfl (src_str _ _) B1.out ?_; intro v2 w2 H2) | (at_builtin; refine wpList_own rfl (.tmp 75) (.tmp 76) 22 rfl _ _ rfl (H2.alloc _) _ _ [34] rfl (src_new _ _ [34] 1 rfl) B2.out ?_; intro v3 w3 H3))
      go_ret
      exact ⟨_, rfl, by rw [HE.out, HX.out]; exact H3⟩

/-- AppendJSONString. -/
theorem f24_any (S : Nat → Prop) (w0 w : World) (v : Value) (xs : List Int) (s : ByteArray) (H0 : Own S w0 w v xs) (hb : xs.length ≤ 800000000000) (hs : s.size ≤ 1048576) :
    Calls Trym.prog 24 #[v, .string s] w (App S w0 (xs ++ jtext (bs s))) := by
  have HK : Hid (Calls Trym.prog 27 #[v, .string s] w (App S w0 (xs ++ jtext (bs s)))) := f27_any S w0 w v xs s H0 hb hs
  clear H0 hb hs
  go_enter Trym.func24, Trym.ntmps24
  go_wp2_with fail
  refine Calls.mono HK.out ?_
  rintro e w' ⟨v3, rfl, H3⟩
  go_wp2_with fail
  go_ret
  exact ⟨_, rfl, H3⟩
end Go.Proofs.Qxb6601750aMods
