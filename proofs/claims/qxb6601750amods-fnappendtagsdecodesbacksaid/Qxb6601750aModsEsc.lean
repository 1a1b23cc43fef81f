/-
  The row of bytes that grows (Own), the law of append for it; hexDigit (26), appendEscaped (23), appendJSONText (19).
-/
import Derived.Test.Qxb6601750aModsSize
import Derived.Test.Qxb6601750aModsHeld
import Derived.Deep.DeepCutAuto
import Derived.RegionTactic
namespace Go.Proofs.Qxb6601750aMods
open Go.ChangeShapes Go.WideShapes Go.ChangeAt Go.RowKit

/-- From w0 to w a row v of bytes xs has grown: of the elder blocks only those of S have turned. -/
structure Own (S : Nat → Prop) (w0 w : World) (v : Value) (xs : List Int) : Prop where
  own : w.ownsRow 0 5 1 v xs.length (xs.map (Value.int .u8))
  grew : Grew w0 w S
  inS : ∀ k, v.ownBlock = some k → S k
  new : ∀ k, w0.heap.size ≤ k → S k
/-- A call answers such a row. -/
def App (S : Nat → Prop) (w0 : World) (ys : List Int) (e : Ending) (w' : World) : Prop := ∃ v', e = .returned v' ∧ Own S w0 w' v' ys

theorem Own.alloc {S : Nat → Prop} {w0 w : World} {v : Value} {xs : List Int} (h : Own S w0 w v xs) (o : Obj) : Own S w0 (w.alloc o) v xs :=
  ⟨h.own.alloc _, h.grew.alloc _, h.inS, h.new⟩
theorem Own.drew {S : Nat → Prop} {w0 w : World} {v : Value} {xs : List Int} (h : Own S w0 w v xs) : Own S w0 w.drew v xs :=
  ⟨h.own, h.grew.drew, h.inS, h.new⟩

theorem wp_own {S : Nat → Prop} {w0 w : World} {o : Oper} {a : Act} {K : Act → World → Prop} {Q : Exit → Act → World → Prop} (s x : Operand) (tx : TypeId)
    (ho : o.op = .call { callee := .builtin .append, args := #[s, x], argTypes := #[22, tx] })
    (v : Value) (xs : List Int) (hv : a.eval s = v) (H : Own S w0 w v xs) (u : Value) (m : Nat) (new : List Int) (hx : a.eval x = u) (hs : Src Trym.prog 1 tx u m (new.map (Value.int .u8)) w)
    (hb : xs.length + new.length ≤ 1000000000000)
    (h : ∀ v' w', Own S w0 w' v' (xs ++ new) → K (a.put o.dst v') w') : o.wp Trym.prog a w K Q := by
  obtain ⟨i0, hi, hz0, hz1, hz2⟩ := info_parts Trym.info5
  have hm : new.length = m := by simpa using hs.newsLen
  subst hm
  refine wp_append_src w s x 22 tx ho 5 i0 (.int .u8 0) 1 Trym.underlying22 hi hz0 hz1 hz2 rfl v xs.length _ hv H.own u _ _ hx hs (by unfold maxLen; omega) (by omega) ?_
  intro v' w' h1 h2 h3
  refine h v' w' ⟨by simpa using h1, H.grew.grown h2 H.inS, fun k hk => ?_, H.new⟩
  rcases h3 k hk with h | h
  · exact H.inS k h
  · exact H.new k (Nat.le_trans H.grew.size h)
theorem wpList_own {S : Nat → Prop} {w0 w : World} {ops : Array Oper} {rest : List Oper} {o : Oper} {a : Act} {Q : Exit → Act → World → Prop} (hgd : o.guard = none) (s x : Operand) (tx : TypeId)
    (ho : o.op = .call { callee := .builtin .append, args := #[s, x], argTypes := #[22, tx] })
    (v : Value) (xs : List Int) (hv : a.eval s = v) (H : Own S w0 w v xs) (u : Value) (m : Nat) (new : List Int) (hx : a.eval x = u) (hs : Src Trym.prog 1 tx u m (new.map (Value.int .u8)) w)
    (hb : xs.length + new.length ≤ 1000000000000)
    (h : ∀ v' w', Own S w0 w' v' (xs ++ new) → wpList Trym.prog ops Q rest (a.put o.dst v') w') : wpList Trym.prog ops Q (o :: rest) a w :=
  wpList_plain hgd fun _ hK => wp_own s x tx ho v xs hv H u m new hx hs hb fun v' w' h1 => hK _ _ (h v' w' h1)
theorem cells_new (w : World) (t : TypeId) (vs : List Value) : ∀ j u, vs[j]? = some u → (w.alloc (.cells vs.toArray t)).cell? ((⟨w.heap.size, 0, none⟩ : Addr).add j) = some u := by
  intro j u hj
  rw [add_plain, Nat.zero_add]
  simp [hj]
/-- The bytes of a slice that was just built. -/
theorem src_new (w : World) (t : TypeId) (new : List Int) (n : Nat) (hn : n = new.length) : Src Trym.prog 1 22 (.slice (some ⟨w.heap.size, 0, none⟩) n n) n (new.map (Value.int .u8)) (w.alloc (.cells (new.map (Value.int .u8)).toArray t)) := by
  subst hn
  exact Src.ofSlice _ Trym.underlying22 _ _ _ _ (by simp) (cells_new w t _) (by simp [Value.oneCell'])
theorem src_str (w : World) (s : ByteArray) : Src Trym.prog 1 9 (.string s) s.size ((bs s).map (Value.int .u8)) w := by
  rw [← byteCells_bs]; exact Src.ofString w Trym.underlying9 s

/-- hexDigit. -/
theorem f26_any (d : Int) (w : World) (h1 : 0 ≤ d) (h2 : d < 16) :
    Calls Trym.prog 26 #[.int .u8 d] w fun e w' => e = .returned (.int .u8 (hexd d)) ∧ w = w' := by
  by_cases h : d < 10
  · have e : hexd d = 48 + d := by unfold hexd; rw [if_pos h]
    rw [e]
    clear e
    go_enter Trym.func26, Trym.ntmps26
    go_wp2
    go_ret
    exact ⟨by rfl, rfl⟩
  · have e : hexd d = 97 + d - 10 := by unfold hexd; rw [if_neg h]
    rw [e]
    clear e
    go_enter Trym.func26, Trym.ntmps26
    go_wp2
    go_ret
    exact ⟨by rfl, rfl⟩

/-- appendEscaped. -/
theorem f23_any (S : Nat → Prop) (w0 w : World) (v : Value) (xs : List Int) (c : Int) (H0 : Own S w0 w v xs) (hb : xs.length ≤ 900000000000) (h1 : 0 ≤ c) (h2 : c < 256) :
    Calls Trym.prog 23 #[v, .int .u8 c] w (App S w0 (xs ++ esc c)) := by
  have H : Hid (Own S w0 w v xs) := H0
  clear H0
  have two : ∀ a b : Int, xs.length + [a, b].length ≤ 1000000000000 := fun a b => by simp only [List.length_cons, List.length_nil]; omega
  have HB2 : Hid (∀ a b : Int, xs.length + [a, b].length ≤ 1000000000000) := two
  have HB1 : Hid (∀ a : Int, xs.length + [a].length ≤ 1000000000000) := fun a => by simp only [List.length_cons, List.length_nil]; omega
  have HB6 : Hid (∀ a b c d e f: Int, xs.length + [a, b, c, d, e, f].length ≤ 1000000000000) := fun a b c d e f => by simp only [List.length_cons, List.length_nil]; omega
  clear two
  by_cases c1 : c = 34
  · subst c1
    have e : esc 34 = [92, 34] := rfl
    rw [e]; clear e
    go_enter Trym.func23, Trym.ntmps23
    go_wp2_with (at_builtin; go_must (refine wpList_own rfl _ _ 22 rfl v xs rfl (H.out.alloc _) _ _ [92, 34] rfl (src_new w _ [92, 34] 2 rfl) (HB2.out _ _) ?_); intro v1 w1 H1)
    go_ret
    exact ⟨_, rfl, H1⟩
  by_cases c2 : c = 92
  · subst c2
    have e : esc 92 = [92, 92] := rfl
    rw [e]; clear e
    go_enter Trym.func23, Trym.ntmps23
    go_wp2_with (at_builtin; go_must (refine wpList_own rfl _ _ 22 rfl v xs rfl (H.out.alloc _) _ _ [92, 92] rfl (src_new w _ [92, 92] 2 rfl) (HB2.out _ _) ?_); intro v1 w1 H1)
    go_ret
    exact ⟨_, rfl, H1⟩
  by_cases c3 : c = 10
  · subst c3
    have e : esc 10 = [92, 110] := rfl
    rw [e]; clear e
    go_enter Trym.func23, Trym.ntmps23
    go_wp2_with (at_builtin; go_must (refine wpList_own rfl _ _ 22 rfl v xs rfl (H.out.alloc _) _ _ [92, 110] rfl (src_new w _ [92, 110] 2 rfl) (HB2.out _ _) ?_); intro v1 w1 H1)
    go_ret
    exact ⟨_, rfl, H1⟩
  by_cases c4 : c = 13
  · subst c4
    have e : esc 13 = [92, 114] := rfl
    rw [e]; clear e
    go_enter Trym.func23, Trym.ntmps23
    go_wp2_with (at_builtin; go_must (refine wpList_own rfl _ _ 22 rfl v xs rfl (H.out.alloc _) _ _ [92, 114] rfl (src_new w _ [92, 114] 2 rfl) (HB2.out _ _) ?_); intro v1 w1 H1)
    go_ret
    exact ⟨_, rfl, H1⟩
  by_cases c5 : c = 9
  · subst c5
    have e : esc 9 = [92, 116] := rfl
    rw [e]; clear e
    go_enter Trym.func23, Trym.ntmps23
    go_wp2_with (at_builtin; go_must (refine wpList_own rfl _ _ 22 rfl v xs rfl (H.out.alloc _) _ _ [92, 116] rfl (src_new w _ [92, 116] 2 rfl) (HB2.out _ _) ?_); intro v1 w1 H1)
    go_ret
    exact ⟨_, rfl, H1⟩
  by_cases c6 : c < 32
  · have e : esc c = [92, 117, 48, 48, hexd (c / 16), hexd (c % 16)] := by
      unfold esc; rw [if_neg c1, if_neg c2, if_neg c3, if_neg c4, if_neg c5, if_pos c6]
    rw [e]; clear e
    have K1 := fun wx => f26_any (c / 16) wx (by omega) (by omega)
    have K2 := fun wx => f26_any (c % 16) wx (by omega) (by omega)
    have HK1 : Hid (∀ wx : World, Calls Trym.prog 26 #[.int .u8 (c / 16)] wx fun e w' => e = .returned (.int .u8 (hexd (c / 16))) ∧ wx = w') := K1
    have HK2 : Hid (∀ wx : World, Calls Trym.prog 26 #[.int .u8 (c % 16)] wx fun e w' => e = .returned (.int .u8 (hexd (c % 16))) ∧ wx = w') := K2
    clear K1 K2
    go_enter Trym.func23, Trym.ntmps23
    go_wp2_with fail
    refine Calls.mono (HK1.out _) ?_
    rintro e w' ⟨rfl, rfl⟩
    go_wp2_with fail
    refine Calls.mono (HK2.out _) ?_
    rintro e w' ⟨rfl, rfl⟩
    go_wp2_with (at_builtin; go_must (refine wpList_own rfl _ _ 22 rfl v xs rfl (H.out.alloc _) _ _ [92, 117, 48, 48, hexd (c / 16), hexd (c % 16)] rfl (src_new w _ [92, 117, 48, 48, hexd (c / 16), hexd (c % 16)] 6 rfl) (HB6.out _ _ _ _ _ _) ?_); intro v1 w1 H1)
    go_ret
    exact ⟨_, rfl, H1⟩
  · have e : esc c = [c] := esc_plain c (by omega) c1 c2
    rw [e]; clear e
    go_enter Trym.func23, Trym.ntmps23
    go_wp2_with (at_builtin; go_must (refine wpList_own rfl _ _ 22 rfl v xs rfl (H.out.alloc _) _ _ [c] rfl (src_new w _ [c] 1 rfl) (HB1.out _) ?_); intro v1 w1 H1)
    go_ret
    exact ⟨_, rfl, H1⟩

theorem take_flat (l : List Int) (i : Nat) (h : i < l.length) : (l.take (i + 1)).flatMap esc = (l.take i).flatMap esc ++ esc l[i] := by
  rw [List.take_succ_eq_append_getElem h, List.flatMap_append, List.flatMap_cons, List.flatMap_nil, List.append_nil]

/-- appendJSONText. -/
theorem f19_any (S : Nat → Prop) (w0 w : World) (v : Value) (xs : List Int) (s : ByteArray) (H0 : Own S w0 w v xs) (hb : xs.length ≤ 800000000000) (hs : s.size ≤ 1048576) :
    Calls Trym.prog 19 #[v, .string s] w (App S w0 (xs ++ jtext (bs s))) := by
  have H : Hid (Own S w0 w v xs) := H0
  clear H0
  have HB : Hid (xs.length + [34].length ≤ 1000000000000) := by show _ ≤ _; simp only [List.length_cons, List.length_nil]; omega
  have HL : Hid (∀ i : Nat, (xs ++ 34 :: ((bs s).take i).flatMap esc).length ≤ 900000000000) := fun i => by
    have h1 := flat_esc_len ((bs s).take i)
    have h2 : ((bs s).take i).length ≤ s.size := by rw [List.length_take, bs_length]; omega
    simp only [List.length_append, List.length_cons]
    omega
  have HE : Hid (xs ++ jtext (bs s) = (xs ++ 34 :: (bs s).flatMap esc) ++ [34]) := by show _ = _; simp [jtext]
  have hs' : (s.size : Int) ≤ 1048576 := by omega
  clear hs hb
  go_enter Trym.func19, Trym.ntmps19
  go_wp2_with (at_builtin; go_must (refine wpList_own rfl _ _ 22 rfl v xs rfl (H.out.alloc _) _ _ [34] rfl (src_new w _ [34] 1 rfl) HB.out ?_); intro v1 w1 H1)
  clear HB H
  go_loopw [0, 5] (fun d iv wr => ∃ i : Nat, i ≤ s.size ∧ iv = .int .i64 i ∧ Own S w0 wr d (xs ++ 34 :: ((bs s).take i).flatMap esc)) (fun _ i _ => s.size - (intOf i).toNat)
  case atStart => exact ⟨0, Nat.zero_le _, rfl, by simpa using H1⟩
  case round =>
    clear H1
    obtain ⟨i, hi, rfl, H0⟩ := hrel
    have H : Hid (Own S w0 wr u0 (xs ++ 34 :: ((bs s).take i).flatMap esc)) := H0
    clear H0
    by_cases hlt : i < s.size
    · have hii : (i : Int) < (s.size : Int) := by omega
      have K1 := f23_any S w0 wr u0 _ (s[i].toNat : Int) H.out (HL.out i) (by omega) (by have := s[i].toNat_lt; omega)
      rw [List.append_assoc, List.cons_append, ← bs_getElem s i hlt, ← take_flat] at K1
      have HK : Hid (Calls Trym.prog 23 #[u0, .int .u8 (s[i].toNat : Int)] wr (App S w0 (xs ++ 34 :: ((bs s).take (i + 1)).flatMap esc))) := by
        rw [bs_getElem s i hlt] at K1
        exact K1
      clear K1
      go_wp2_with fail
      refine Calls.mono HK.out ?_
      rintro e w' ⟨v2, rfl, H2⟩
      go_wp2_with fail
      go_roundw
      case rel => exact ⟨i + 1, by omega, by go_num, H2⟩
      case measure => simp [intOf]; omega
    · have e : i = s.size := by omega
      subst e
      have H2 : Own S w0 wr u0 (xs ++ 34 :: (bs s).flatMap esc) := by
        have := H.out
        rwa [List.take_of_length_le (by rw [bs_length]; omega)] at this
      have HB : Hid ((xs ++ 34 :: (bs s).flatMap esc).length + [34].length ≤ 1000000000000) := by
        have := HL.out s.size
        rw [List.take_of_length_le (by rw [bs_length]; omega)] at this
        show _ ≤ _
        simp only [List.length_cons, List.length_nil] at this ⊢
        omega
      clear H HL
      go_wp2_with (at_builtin; go_must (refine wpList_own rfl _ _ 22 rfl u0 _ rfl (H2.alloc _) _ _ [34] rfl (src_new wr _ [34] 1 rfl) HB.out ?_); intro v1 w1 H1)
      go_ret
      exact ⟨_, rfl, by rw [HE.out]; exact H1⟩
end Go.Proofs.Qxb6601750aMods
