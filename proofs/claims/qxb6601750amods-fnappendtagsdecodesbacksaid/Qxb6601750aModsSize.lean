/-
  The functions that bound the input: capAdd (6), countBytes (18), tagsBytes (7), zzBytes (5, 16), each by its contract; and how tags lie in memory.
-/
import Derived.Test.Qxb6601750aModsLeaf
import Derived.Test.Qxb6601750aModsOwn
import Derived.Test.Qxb6601750aModsPlain
namespace Go.Proofs.Qxb6601750aMods
open Go.ChangeShapes Go.WideShapes Go.ChangeAt Go.RowKit

/-- What is known of a slice of tags that is read. -/
def TagsIn (w : World) (a : Option Addr) (len cap : Nat) (T : List TagV) : Prop :=
  len = T.length ∧ (∀ t ∈ T, t.1.size ≤ maxLen ∧ t.2.1.size ≤ maxLen) ∧ (a = none → T = [] ∧ cap = 0) ∧
    ∀ x, a = some x → ∀ i (_ : i < T.length), w.cell? (x.add (i * 3)) = some (.string T[i].1) ∧ w.cell? (x.add (i * 3 + 1)) = some (.string T[i].2.1) ∧ w.cell? (x.add (i * 3 + 2)) = some (.bool T[i].2.2)
theorem tags_at {w : World} {a : Option Addr} {len cap : Nat} {T : List TagV} (h : TagsIn w a len cap T) (hn : 0 < T.length) :
    ∃ b off, a = some ⟨b, off, none⟩ ∧ b < w.heap.size ∧ ∀ i (_ : i < T.length), w.cell? ⟨b, off + i * 3, none⟩ = some (.string T[i].1) ∧ w.cell? ⟨b, off + i * 3 + 1, none⟩ = some (.string T[i].2.1) ∧ w.cell? ⟨b, off + i * 3 + 2, none⟩ = some (.bool T[i].2.2) := by
  obtain ⟨_, _, h3, h4⟩ := h
  cases a with
  | none => obtain ⟨rfl, _⟩ := h3 rfl; simp at hn
  | some x =>
    have h5 := h4 x rfl
    obtain ⟨b, off, spot⟩ := x
    have h0 := (h5 0 hn).1
    have hs : spot = none := by simpa [Addr.add] using World.cell?_spot h0
    subst hs
    refine ⟨b, off, rfl, ?_, fun i hi => ?_⟩
    · have := World.block_lt_of_cell? w _ h0
      simpa [Addr.add] using this
    · have h6 := h5 i hi
      rw [add_plain, add_plain, add_plain, ← Nat.add_assoc, ← Nat.add_assoc] at h6
      exact h6

/-- It answers an int of no account, in bounds. -/
def AnsInt (e : Ending) : Prop := ∃ r : Int, e = .returned (.int .i64 r) ∧ 0 ≤ r ∧ r ≤ 2097152
/-- It answers a bool, and if it is true then p. -/
def AnsB (p : Prop) (e : Ending) : Prop := ∃ b, e = .returned (.bool b) ∧ (b = true → p)

/-- capAdd. -/
theorem f6_any (t n : Int) (w : World) (h1 : 0 ≤ t) (h2 : t ≤ 2097152) (h3 : 0 ≤ n) (_h4 : n ≤ 9223372036854775807) :
    Calls Trym.prog 6 #[.int .i64 t, .int .i64 n] w fun e w' => AnsInt e ∧ w = w' := by
  by_cases ht : 1048576 < t
  · go_enter Trym.func6, Trym.ntmps6
    go_wp2
    go_ret
    exact ⟨⟨_, rfl, by omega, by omega⟩, rfl⟩
  · have hd : decide (1048576 < t) = false := by simp; omega
    by_cases hn : 1048576 < n
    · go_enter Trym.func6, Trym.ntmps6
      go_wp2
      go_ret
      exact ⟨⟨_, rfl, by omega, by omega⟩, rfl⟩
    · go_enter Trym.func6, Trym.ntmps6
      go_wp2
      go_ret
      exact ⟨⟨_, rfl, by omega, by omega⟩, rfl⟩

/-- countBytes. -/
theorem f18_any (t n : Int) (w : World) (h1 : 0 ≤ t) (h2 : t ≤ 2097152) (h3 : 0 ≤ n) (h4 : n ≤ 9223372036854775807) :
    Calls Trym.prog 18 #[.int .i64 t, .int .i64 n, .int .i64 40] w fun e w' => AnsInt e ∧ w = w' := by
  by_cases hn : 1048576 < n
  · go_enter Trym.func18, Trym.ntmps18
    go_wp2
    go_ret
    exact ⟨⟨_, rfl, by omega, by omega⟩, rfl⟩
  · have H := f6_any t (n * 40) w h1 h2 (by omega) (by omega)
    have HH : Hid (Calls Trym.prog 6 #[.int .i64 t, .int .i64 (n * 40)] w fun e w' => AnsInt e ∧ w = w') := H
    clear H
    go_enter Trym.func18, Trym.ntmps18
    go_wp2_with fail
    refine Calls.mono HH.out ?_
    rintro e w' ⟨⟨r, rfl, hr1, hr2⟩, rfl⟩
    go_wp2
    go_ret
    exact ⟨⟨_, rfl, hr1, hr2⟩, rfl⟩

set_option maxRecDepth 100000 in
/-- tagsBytes. -/
theorem f7_any (t : Int) (a : Option Addr) (len cap : Nat) (T : List TagV) (w : World) (hT : TagsIn w a len cap T) (hm : len ≤ 9223372036854775807) (h1 : 0 ≤ t) (h2 : t ≤ 2097152) :
    Calls Trym.prog 7 #[.int .i64 t, .slice a len cap] w fun e w' => AnsInt e ∧ w = w' := by
  have H := f18_any t (len : Int) w h1 h2 (by omega) (by omega)
  have HH : Hid (Calls Trym.prog 18 #[.int .i64 t, .int .i64 (len : Int), .int .i64 40] w fun e w' => AnsInt e ∧ w = w') := H
  have HT : Hid (TagsIn w a len cap T) := hT
  clear H hT
  go_enter Trym.func7, Trym.ntmps7
  go_wp2_with fail
  refine Calls.mono HH.out ?_
  rintro e w' ⟨⟨r, rfl, hr1, hr2⟩, rfl⟩
  go_wp2_with fail
  go_loop [0, 5] (fun tv iv => ∃ i : Nat, i ≤ len ∧ iv = .int .i64 i ∧ ∃ r : Int, tv = .int .i64 r ∧ 0 ≤ r ∧ r ≤ 2097152) (fun _ i => len - (intOf i).toNat)
  case atStart => exact ⟨0, Nat.zero_le _, rfl, r, rfl, hr1, hr2⟩
  case round =>
    clear hr1 hr2
    obtain ⟨i, hi, rfl, r, rfl, hr1, hr2⟩ := hrel
    by_cases hlt : i < len
    · by_cases hr : r ≤ 1048576
      · have hl : Hid (len = T.length) := HT.out.1
        obtain ⟨b, off, rfl, _, hc⟩ := tags_at HT.out (by rw [← hl.out]; omega)
        obtain ⟨c1, c2, c3⟩ := hc i (by rw [← hl.out]; exact hlt)
        have hs := HT.out.2.1 _ (List.getElem_mem (show i < T.length by rw [← hl.out]; exact hlt))
        obtain ⟨q, hq⟩ : ∃ q, q = T[i]'(by rw [← hl.out]; exact hlt) := ⟨_, rfl⟩
        rw [← hq] at c1 c2 hs
        obtain ⟨ks, vs, bb⟩ := q
        simp only at c1 c2 hs
        unfold maxLen at hs
        have hii : (i : Int) < (len : Int) := by omega
        clear c3 hc hq
        go_wp2_with fail
        refine (f6_any r (ks.size : Int) _ hr1 hr2 (by omega) (by omega)).mono ?_
        rintro e w' ⟨⟨r1, rfl, hr3, hr4⟩, rfl⟩
        go_wp2_with fail
        refine (f6_any r1 (vs.size : Int) _ hr3 hr4 (by omega) (by omega)).mono ?_
        rintro e w' ⟨⟨r2, rfl, hr5, hr6⟩, rfl⟩
        go_wp2_with fail
        go_round
        case rel => exact ⟨i + 1, by omega, by go_num, r2, rfl, hr5, hr6⟩
        case measure => simp [intOf]; omega
      · go_wp2
        go_ret
        exact ⟨⟨_, rfl, hr1, hr2⟩, rfl⟩
    · go_wp2
      go_ret
      exact ⟨⟨_, rfl, hr1, hr2⟩, rfl⟩



set_option maxRecDepth 100000 in
/-- zzBytes. -/
theorem f5_any (a1 : Option Addr) (n1 c1 : Nat) (a : Option Addr) (len cap : Nat) (T : List TagV) (w : World) (hT : TagsIn w a len cap T) (_h1 : n1 ≤ 9223372036854775807) (_h2 : len ≤ 9223372036854775807) :
    Calls Trym.prog 5 #[.slice a1 n1 c1, .slice a len cap] w fun e w' => AnsB (n1 + T.length + sumT T ≤ 1048576) e ∧ w = w' := by
  have HT : Hid (TagsIn w a len cap T) := hT
  clear hT
  by_cases hb : (n1 : Int) ≤ 1048576
  · by_cases hl : (len : Int) ≤ 1048576
    · by_cases hs : (n1 : Int) + len ≤ 1048576
      · go_enter Trym.func5, Trym.ntmps5
        go_wp2_with fail
        go_loop [5, 6] (fun zv iv => ∃ i : Nat, i ≤ len ∧ iv = .int .i64 i ∧ ∃ z : Int, zv = .int .i64 z ∧ z = n1 + len + sumT (T.take i) ∧ z ≤ 1048576) (fun _ i => len - (intOf i).toNat)
        case atStart => exact ⟨0, Nat.zero_le _, rfl, _, rfl, by simp [sumT], hs⟩
        case round =>
          obtain ⟨i, hi, rfl, z, rfl, hz, hz2⟩ := hrel
          have Hz : Hid (z = n1 + len + sumT (T.take i)) := hz
          have hz0 : 0 ≤ z := by omega
          clear hz
          by_cases hlt : i < len
          · have hlT : Hid (len = T.length) := HT.out.1
            obtain ⟨b, off, rfl, _, hc⟩ := tags_at HT.out (by rw [← hlT.out]; omega)
            obtain ⟨c1, c2, c3⟩ := hc i (by rw [← hlT.out]; exact hlt)
            have hs := HT.out.2.1 _ (List.getElem_mem (show i < T.length by rw [← hlT.out]; exact hlt))
            have HS : Hid (sumT (T.take (i + 1)) = sumT (T.take i) + (T[i]'(by rw [← hlT.out]; exact hlt)).1.size + (T[i]'(by rw [← hlT.out]; exact hlt)).2.1.size) := by
              show _ = _
              rw [List.take_add_one, List.getElem?_eq_getElem (by rw [← hlT.out]; exact hlt)]
              simp only [sumT, List.map_append, Option.toList, List.map_cons, List.map_nil, List.sum_append, List.sum_cons, List.sum_nil]; omega
            obtain ⟨q, hq⟩ : ∃ q, q = T[i]'(by rw [← hlT.out]; exact hlt) := ⟨_, rfl⟩
            rw [← hq] at c1 c2 hs HS
            obtain ⟨ks, vs, bb⟩ := q
            simp only at c1 c2 hs HS
            unfold maxLen at hs
            have hii : (i : Int) < (len : Int) := by omega
            clear c3 hc hq
            by_cases hk : (ks.size : Int) ≤ 1048576
            · by_cases hk2 : z + ks.size ≤ 1048576
              · by_cases hv : (vs.size : Int) ≤ 1048576
                · by_cases hv2 : z + ks.size + vs.size ≤ 1048576
                  · go_wp2_with fail
                    go_round
                    case rel => exact ⟨i + 1, by omega, by go_num, _, rfl, by have := Hz.out; have := HS.out; omega, hv2⟩
                    case measure => simp [intOf]; omega
                  · go_wp2
                    go_ret
                    exact ⟨⟨_, rfl, by simp⟩, rfl⟩
                · go_wp2
                  go_ret
                  exact ⟨⟨_, rfl, by simp⟩, rfl⟩
              · go_wp2
                go_ret
                exact ⟨⟨_, rfl, by simp⟩, rfl⟩
            · go_wp2
              go_ret
              exact ⟨⟨_, rfl, by simp⟩, rfl⟩
          · go_wp2
            go_ret
            refine ⟨⟨_, rfl, fun _ => ?_⟩, rfl⟩
            have e1 := Hz.out
            have e2 : i = T.length := by have := HT.out.1; omega
            rw [e2, List.take_length] at e1
            have e3 := HT.out.1
            clear Hz HT
            omega
      · go_enter Trym.func5, Trym.ntmps5
        go_wp2
        go_ret
        exact ⟨⟨_, rfl, by simp⟩, rfl⟩
    · go_enter Trym.func5, Trym.ntmps5
      go_wp2
      go_ret
      exact ⟨⟨_, rfl, by simp⟩, rfl⟩
  · go_enter Trym.func5, Trym.ntmps5
    go_wp2
    go_ret
    exact ⟨⟨_, rfl, by simp⟩, rfl⟩

set_option maxRecDepth 100000 in
/-- zzBytes. -/
theorem f16_any (a1 : Option Addr) (n1 c1 : Nat) (a : Option Addr) (len cap : Nat) (T : List TagV) (w : World) (hT : TagsIn w a len cap T) (_h1 : n1 ≤ 9223372036854775807) (_h2 : len ≤ 9223372036854775807) :
    Calls Trym.prog 16 #[.slice a1 n1 c1, .slice a len cap] w fun e w' => AnsB (n1 + T.length + sumT T ≤ 1048576) e ∧ w = w' := by
  have HT : Hid (TagsIn w a len cap T) := hT
  clear hT
  by_cases hb : (n1 : Int) ≤ 1048576
  · by_cases hl : (len : Int) ≤ 1048576
    · by_cases hs : (n1 : Int) + len ≤ 1048576
      · go_enter Trym.func16, Trym.ntmps16
        go_wp2_with fail
        go_loop [5, 6] (fun zv iv => ∃ i : Nat, i ≤ len ∧ iv = .int .i64 i ∧ ∃ z : Int, zv = .int .i64 z ∧ z = n1 + len + sumT (T.take i) ∧ z ≤ 1048576) (fun _ i => len - (intOf i).toNat)
        case atStart => exact ⟨0, Nat.zero_le _, rfl, _, rfl, by simp [sumT], hs⟩
        case round =>
          obtain ⟨i, hi, rfl, z, rfl, hz, hz2⟩ := hrel
          have Hz : Hid (z = n1 + len + sumT (T.take i)) := hz
          have hz0 : 0 ≤ z := by omega
          clear hz
          by_cases hlt : i < len
          · have hlT : Hid (len = T.length) := HT.out.1
            obtain ⟨b, off, rfl, _, hc⟩ := tags_at HT.out (by rw [← hlT.out]; omega)
            obtain ⟨c1, c2, c3⟩ := hc i (by rw [← hlT.out]; exact hlt)
            have hs := HT.out.2.1 _ (List.getElem_mem (show i < T.length by rw [← hlT.out]; exact hlt))
            have HS : Hid (sumT (T.take (i + 1)) = sumT (T.take i) + (T[i]'(by rw [← hlT.out]; exact hlt)).1.size + (T[i]'(by rw [← hlT.out]; exact hlt)).2.1.size) := by
              show _ = _
              rw [List.take_add_one, List.getElem?_eq_getElem (by rw [← hlT.out]; exact hlt)]
              simp only [sumT, List.map_append, Option.toList, List.map_cons, List.map_nil, List.sum_append, List.sum_cons, List.sum_nil]; omega
            obtain ⟨q, hq⟩ : ∃ q, q = T[i]'(by rw [← hlT.out]; exact hlt) := ⟨_, rfl⟩
            rw [← hq] at c1 c2 hs HS
            obtain ⟨ks, vs, bb⟩ := q
            simp only at c1 c2 hs HS
            unfold maxLen at hs
            have hii : (i : Int) < (len : Int) := by omega
            clear c3 hc hq
            by_cases hk : (ks.size : Int) ≤ 1048576
            · by_cases hk2 : z + ks.size ≤ 1048576
              · by_cases hv : (vs.size : Int) ≤ 1048576
                · by_cases hv2 : z + ks.size + vs.size ≤ 1048576
                  · go_wp2_with fail
                    go_round
                    case rel => exact ⟨i + 1, by omega, by go_num, _, rfl, by have := Hz.out; have := HS.out; omega, hv2⟩
                    case measure => simp [intOf]; omega
                  · go_wp2
                    go_ret
                    exact ⟨⟨_, rfl, by simp⟩, rfl⟩
                · go_wp2
                  go_ret
                  exact ⟨⟨_, rfl, by simp⟩, rfl⟩
              · go_wp2
                go_ret
                exact ⟨⟨_, rfl, by simp⟩, rfl⟩
            · go_wp2
              go_ret
              exact ⟨⟨_, rfl, by simp⟩, rfl⟩
          · go_wp2
            go_ret
            refine ⟨⟨_, rfl, fun _ => ?_⟩, rfl⟩
            have e1 := Hz.out
            have e2 : i = T.length := by have := HT.out.1; omega
            rw [e2, List.take_length] at e1
            have e3 := HT.out.1
            clear Hz HT
            omega
      · go_enter Trym.func16, Trym.ntmps16
        go_wp2
        go_ret
        exact ⟨⟨_, rfl, by simp⟩, rfl⟩
    · go_enter Trym.func16, Trym.ntmps16
      go_wp2
      go_ret
      exact ⟨⟨_, rfl, by simp⟩, rfl⟩
  · go_enter Trym.func16, Trym.ntmps16
    go_wp2
    go_ret
    exact ⟨⟨_, rfl, by simp⟩, rfl⟩
end Go.Proofs.Qxb6601750aMods
