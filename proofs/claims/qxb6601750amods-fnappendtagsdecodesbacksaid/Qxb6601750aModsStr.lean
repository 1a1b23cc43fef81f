/-
  decodeString (22) at a string that appendJSONText wrote.
-/
import Derived.Test.Qxb6601750aModsDec
namespace Go.Proofs.Qxb6601750aMods
open Go.ChangeShapes Go.WideShapes Go.ChangeAt Go.RowKit

/-- Where byte i of a string's text stands. -/
def posAt (p : Nat) (l : List Int) (i : Nat) : Nat := p + 1 + ((l.take i).flatMap esc).length
theorem posAt_zero (p : Nat) (l : List Int) : posAt p l 0 = p + 1 := rfl
theorem posAt_succ (p : Nat) (l : List Int) (i : Nat) (h : i < l.length) : posAt p l (i + 1) = posAt p l i + (esc l[i]).length := by
  unfold posAt
  rw [take_flat l i h, List.length_append]
  omega
theorem posAt_full (p : Nat) (l : List Int) : posAt p l l.length + 1 = p + (jtext l).length := by
  unfold posAt jtext
  rw [List.take_length, List.length_cons, List.length_append, List.length_singleton]
  omega
theorem at_pos {zs r l : List Int} {p : Nat} (h : At zs p (jtext l ++ r)) (i : Nat) : At zs (posAt p l i) ((l.drop i).flatMap esc ++ 34 :: r) := by
  have e : jtext l ++ r = (34 :: (l.take i).flatMap esc) ++ ((l.drop i).flatMap esc ++ 34 :: r) := by
    have h2 : l.flatMap esc = (l.take i).flatMap esc ++ (l.drop i).flatMap esc := by rw [← List.flatMap_append, List.take_append_drop]
    unfold jtext
    rw [h2]
    simp only [List.cons_append, List.append_assoc, List.nil_append]
  rw [e] at h
  have h3 := h.step
  rw [List.length_cons] at h3
  have e2 : posAt p l i = p + (((l.take i).flatMap esc).length + 1) := by unfold posAt; omega
  rw [e2]
  exact h3
theorem at_here {zs r l : List Int} {p : Nat} (h : At zs p (jtext l ++ r)) (i : Nat) (hi : i < l.length) : At zs (posAt p l i) (esc l[i] ++ ((l.drop (i + 1)).flatMap esc ++ 34 :: r)) := by
  have h1 := at_pos h i
  rw [List.drop_eq_getElem_cons hi, List.flatMap_cons, List.append_assoc] at h1
  exact h1
theorem esc_pos (c : Int) : 0 < (esc c).length := by unfold esc; (repeat' split) <;> simp

/-- The hex digits of a control byte's six-byte escape, and what they sum to. -/
def digAt (x : Int) (k : Nat) : Int := if k < 4 then 0 else if k = 4 then x / 16 else x % 16
def codeAt (x : Int) (k : Nat) : Int := if k < 5 then 0 else if k = 5 then x / 16 else x
theorem digAt_range (x : Int) (k : Nat) (h0 : 0 ≤ x) (h1 : x < 32) : 0 ≤ digAt x k ∧ digAt x k < 16 := by
  unfold digAt; split
  · omega
  · split <;> omega
theorem codeAt_range (x : Int) (k : Nat) (h0 : 0 ≤ x) (h1 : x < 32) : 0 ≤ codeAt x k ∧ codeAt x k < 32 := by
  unfold codeAt; split
  · omega
  · split <;> omega
theorem codeAt_succ (x : Int) (k : Nat) (h2 : 2 ≤ k) (h6 : k < 6) : codeAt x (k + 1) = codeAt x k * 16 + digAt x k := by
  match k, h2, h6 with
  | 2, _, _ => rfl
  | 3, _, _ => rfl
  | 4, _, _ => show x / 16 = 0 * 16 + x / 16; omega
  | 5, _, _ => show x = x / 16 * 16 + x % 16; omega

theorem run_make22 : ∃ bc : Array Value, bc.size = 16 ∧ ∀ w, (Instr.makeSlice 22 (.int .i64 0) (.int .i64 16)).run Trym.prog w = .ok (.slice (some ⟨w.heap.size, 0, none⟩) 0 16) (w.alloc (.cells bc 5)) := by
  obtain ⟨i0, hi, hz0, hz1, hz2⟩ := info_parts Trym.info5
  refine ⟨madeCells (Value.int .u8 0).cells (16 * 1), size_madeCells _ _, fun w => ?_⟩
  have h := run_make (P := Trym.prog) w 22 5 i0 (.int .u8 0) Trym.underlying22 hi hz0 .i64 .i64 0 16 (by omega) (by omega) (by rw [hz2]; omega) (by omega)
  rw [hz1] at h
  exact h
theorem conv_row {w : World} {B : Nat} {v : Value} {s : ByteArray} (h : w.ownsRow B 5 1 v (bs s).length ((bs s).map (Value.int .u8))) : (convert 22 9 v).run Trym.prog w = .ok (.string s) w := by
  rcases h.2 with ⟨rfl, h0⟩ | ⟨g, cap, cur, rfl, hb, hg, _⟩
  · have e : s = ByteArray.empty := by
      rw [bs_length] at h0
      exact ByteArray.size_eq_zero_iff.1 h0
    subst e
    exact run_convert_bytes_nil w 22 5 Trym.underlying22 Trym.underlying5 0 0 9 Trym.underlying9
  · have hl : (bs s).length = s.data.toList.length := by simp [bs]
    have h1 := run_convert_bytes_back (P := Trym.prog) w 22 9 5 ⟨g, 0, none⟩ cap s.data.toList Trym.underlying22 Trym.underlying5 Trym.underlying9 (fun j hj => by
      rw [add_plain, Nat.zero_add, h.cellAt j (by omega), List.getElem?_map, List.getElem?_eq_getElem (by omega)]
      simp [bs])
    rw [hl]
    simpa using h1

set_option maxRecDepth 100000 in
set_option maxHeartbeats 2000000 in
/-- decodeString. -/
theorem f22_any (g c : Nat) (zs r : List Int) (p : Nat) (s : ByteArray) (w : World) (hg : GotIn w g zs) (ha : At zs p (jtext (bs s) ++ r)) (hl : zs.length ≤ 1000000000000) (hs : s.size ≤ 1048576) :
    Calls Trym.prog 22 #[.slice (some ⟨g, 0, none⟩) zs.length c, .int .i64 (p : Int)] w fun e w' => e = .returned (.tuple #[.string s, .int .i64 ((p : Int) + ((jtext (bs s)).length : Nat)), .bool true]) ∧ Below w.heap.size w w' := by
  obtain ⟨bc, hbc, hmk⟩ := run_make22
  have hlen := ha.len
  rw [List.length_append] at hlen
  have hjp : 1 < (jtext (bs s)).length := by simp only [jtext, List.length_cons, List.length_append, List.length_nil]; omega
  obtain ⟨n, hn⟩ : ∃ n, n = zs.length := ⟨_, rfl⟩
  have HN : Hid (n = zs.length) := hn
  have HG : Hid (GotIn w g zs) := hg
  have HA : Hid (At zs p (jtext (bs s) ++ r)) := ha
  have h1 : (n : Int) ≤ 1000000000000 := by omega
  have h2 : (p : Int) < (n : Int) := by omega
  have hc0 : w.cell? ⟨g, p, none⟩ = some (.int .u8 34) := by
    have h : At zs p ([34] ++ ((bs s).flatMap esc ++ [34] ++ r)) := by simpa [jtext] using ha
    exact hg.at h 0 (by simp)
  have HO : Hid (Own (fun k => w.heap.size ≤ k) w (w.alloc (.cells bc 5)) (.slice (some ⟨w.heap.size, 0, none⟩) 0 16) []) :=
    ⟨World.ownsRow_made (base := 0) (e := 5) (size := 1) w bc 16 (Nat.zero_le _) (by unfold maxLen; omega) (by omega), (Grew.refl _ _).alloc _, fun k hk => by simp only [Value.ownBlock, Option.some.injEq] at hk; omega, fun k hk => hk⟩
  have hs2 : Hid (s.size ≤ 1048576) := hs
  have hdp : decide ((p : Int) < 0) = false := by simp
  have hdn : decide (n ≤ p) = false := by simp; omega
  rw [← hn]
  clear hn hg ha hlen hl hbc hjp hs
  go_enter Trym.func22, Trym.ntmps22
  go_wp2_with fail
  go_loopw [1, 7] (fun pv ov wr => ∃ i : Nat, i ≤ s.size ∧ pv = .int .i64 ((posAt p (bs s) i : Nat) : Int) ∧ Own (fun k => w.heap.size ≤ k) w wr ov ((bs s).take i)) (fun pv _ _ => n - (intOf pv).toNat)
  case atStart => exact ⟨0, Nat.zero_le _, by rw [posAt_zero]; go_num, by simpa using HO.out⟩
  case round =>
    clear hc0 HO hmk
    obtain ⟨i, hi, rfl, H0⟩ := hrel
    have H : Hid (Own (fun k => w.heap.size ≤ k) w wr u7 ((bs s).take i)) := H0
    have hbel : Below w.heap.size w wr := H0.grew.below (Nat.le_refl _) (fun k hk h => by omega)
    have HGr : Hid (GotIn wr g zs) := HG.out.below hbel HG.out.1
    have HBL : Hid (Below w.heap.size w wr) := hbel
    clear H0 hbel
    by_cases hlt : i < s.size
    · have hlb : Hid (i < (bs s).length) := by show _ < _; rw [bs_length]; exact hlt
      have hat := at_here HA.out i hlb.out
      have hsucc := posAt_succ p (bs s) i hlb.out
      have HT : Hid ((bs s).take (i + 1) = (bs s).take i ++ [(bs s)[i]'hlb.out]) := List.take_succ_eq_append_getElem hlb.out
      have hrange := bs_range s _ (List.getElem_mem hlb.out)
      obtain ⟨x, hx⟩ : ∃ x, x = (bs s)[i]'hlb.out := ⟨_, rfl⟩
      rw [← hx] at hat hsucc HT hrange
      obtain ⟨q, hq⟩ : ∃ q, q = posAt p (bs s) i := ⟨_, rfl⟩
      rw [← hq] at hat hsucc ⊢
      have hle := hat.len
      rw [List.length_append, ← HN.out, List.length_append, List.length_cons] at hle
      have HAt : Hid (At zs q (esc x ++ (((bs s).drop (i + 1)).flatMap esc ++ 34 :: r))) := hat
      have HSU : Hid (posAt p (bs s) (i + 1) = q + (esc x).length) := hsucc
      have HLE : Hid (n = q + ((esc x).length + ((((bs s).drop (i + 1)).flatMap esc).length + (r.length + 1)))) := hle
      have B1 : Hid (∀ y : Int, ((bs s).take i).length + [y].length ≤ 1000000000000) := fun y => by
        have := hs2.out
        simp only [List.length_take, bs_length, List.length_cons, List.length_nil]; omega
      obtain ⟨hr0, hr1⟩ := hrange
      clear hat hsucc hx hq hle
      by_cases c34 : x = 34
      · subst c34
        have he : esc 34 = [92, 34] := rfl
        rw [he] at HAt HSU HLE
        have k0 : wr.cell? ⟨g, q, none⟩ = some (.int .u8 92) := HGr.out.at HAt.out 0 (by simp)
        have k1 : wr.cell? ⟨g, q + 1, none⟩ = some (.int .u8 34) := HGr.out.at HAt.out 1 (by simp)
        have hqn : (q : Int) + 1 < (n : Int) := by have := HLE.out; simp only [List.length_cons, List.length_nil] at this; omega
        clear he hr0 hr1
        go_wp2_with (at_builtin; go_must (refine wpList_own rfl (.tmp 73) (.tmp 75) 22 rfl u7 _ rfl (H.out.alloc _) _ _ [34] rfl (src_new wr _ [34] 1 rfl) (B1.out _) ?_); intro v1 w1 H1)
        go_roundw
        case rel => exact ⟨i + 1, by omega, by rw [HSU.out]; go_num, by rw [HT.out]; exact H1⟩
        case measure => simp [intOf]; omega
      by_cases c92 : x = 92
      · subst c92
        have he : esc 92 = [92, 92] := rfl
        rw [he] at HAt HSU HLE
        have k0 : wr.cell? ⟨g, q, none⟩ = some (.int .u8 92) := HGr.out.at HAt.out 0 (by simp)
        have k1 : wr.cell? ⟨g, q + 1, none⟩ = some (.int .u8 92) := HGr.out.at HAt.out 1 (by simp)
        have hqn : (q : Int) + 1 < (n : Int) := by have := HLE.out; simp only [List.length_cons, List.length_nil] at this; omega
        clear he hr0 hr1
        go_wp2_with (at_builtin; go_must (refine wpList_own rfl (.tmp 73) (.tmp 75) 22 rfl u7 _ rfl (H.out.alloc _) _ _ [92] rfl (src_new wr _ [92] 1 rfl) (B1.out _) ?_); intro v1 w1 H1)
        go_roundw
        case rel => exact ⟨i + 1, by omega, by rw [HSU.out]; go_num, by rw [HT.out]; exact H1⟩
        case measure => simp [intOf]; omega
      by_cases c10 : x = 10
      · subst c10
        have he : esc 10 = [92, 110] := rfl
        rw [he] at HAt HSU HLE
        have k0 : wr.cell? ⟨g, q, none⟩ = some (.int .u8 92) := HGr.out.at HAt.out 0 (by simp)
        have k1 : wr.cell? ⟨g, q + 1, none⟩ = some (.int .u8 110) := HGr.out.at HAt.out 1 (by simp)
        have hqn : (q : Int) + 1 < (n : Int) := by have := HLE.out; simp only [List.length_cons, List.length_nil] at this; omega
        clear he hr0 hr1
        go_wp2_with (at_builtin; go_must (refine wpList_own rfl (.tmp 81) (.tmp 82) 22 rfl u7 _ rfl (H.out.alloc _) _ _ [10] rfl (src_new wr _ [10] 1 rfl) (B1.out _) ?_); intro v1 w1 H1)
        go_roundw
        case rel => exact ⟨i + 1, by omega, by rw [HSU.out]; go_num, by rw [HT.out]; exact H1⟩
        case measure => simp [intOf]; omega
      by_cases c13 : x = 13
      · subst c13
        have he : esc 13 = [92, 114] := rfl
        rw [he] at HAt HSU HLE
        have k0 : wr.cell? ⟨g, q, none⟩ = some (.int .u8 92) := HGr.out.at HAt.out 0 (by simp)
        have k1 : wr.cell? ⟨g, q + 1, none⟩ = some (.int .u8 114) := HGr.out.at HAt.out 1 (by simp)
        have hqn : (q : Int) + 1 < (n : Int) := by have := HLE.out; simp only [List.length_cons, List.length_nil] at this; omega
        clear he hr0 hr1
        go_wp2_with (at_builtin; go_must (refine wpList_own rfl (.tmp 88) (.tmp 89) 22 rfl u7 _ rfl (H.out.alloc _) _ _ [13] rfl (src_new wr _ [13] 1 rfl) (B1.out _) ?_); intro v1 w1 H1)
        go_roundw
        case rel => exact ⟨i + 1, by omega, by rw [HSU.out]; go_num, by rw [HT.out]; exact H1⟩
        case measure => simp [intOf]; omega
      by_cases c9 : x = 9
      · subst c9
        have he : esc 9 = [92, 116] := rfl
        rw [he] at HAt HSU HLE
        have k0 : wr.cell? ⟨g, q, none⟩ = some (.int .u8 92) := HGr.out.at HAt.out 0 (by simp)
        have k1 : wr.cell? ⟨g, q + 1, none⟩ = some (.int .u8 116) := HGr.out.at HAt.out 1 (by simp)
        have hqn : (q : Int) + 1 < (n : Int) := by have := HLE.out; simp only [List.length_cons, List.length_nil] at this; omega
        clear he hr0 hr1
        go_wp2_with (at_builtin; go_must (refine wpList_own rfl (.tmp 95) (.tmp 96) 22 rfl u7 _ rfl (H.out.alloc _) _ _ [9] rfl (src_new wr _ [9] 1 rfl) (B1.out _) ?_); intro v1 w1 H1)
        go_roundw
        case rel => exact ⟨i + 1, by omega, by rw [HSU.out]; go_num, by rw [HT.out]; exact H1⟩
        case measure => simp [intOf]; omega
      by_cases c32 : x < 32
      · have he : esc x = [92, 117, 48, 48, hexd (x / 16), hexd (x % 16)] := by
          unfold esc; rw [if_neg c34, if_neg c92, if_neg c10, if_neg c13, if_neg c9, if_pos c32]
        rw [he] at HAt HSU HLE
        have k0 : wr.cell? ⟨g, q, none⟩ = some (.int .u8 92) := HGr.out.at HAt.out 0 (by simp)
        have k1 : wr.cell? ⟨g, q + 1, none⟩ = some (.int .u8 117) := HGr.out.at HAt.out 1 (by simp)
        have K : Hid (∀ kk, 2 ≤ kk → kk < 6 → wr.cell? ⟨g, q + kk, none⟩ = some (.int .u8 (hexd (digAt x kk)))) := fun kk h2 h6 => by
          match kk, h2, h6 with
          | 2, _, _ => exact HGr.out.at HAt.out 2 (by simp)
          | 3, _, _ => exact HGr.out.at HAt.out 3 (by simp)
          | 4, _, _ => exact HGr.out.at HAt.out 4 (by simp)
          | 5, _, _ => exact HGr.out.at HAt.out 5 (by simp)
        have hqn5 : (q : Int) + 5 < (n : Int) := by have := HLE.out; simp only [List.length_cons, List.length_nil] at this; omega
        have hdq : decide (q < n) = true := by simp; omega
        have hd1 : decide ((n : Int) ≤ (q : Int) + 1) = false := by simp; omega
        have hd5 : decide ((n : Int) ≤ (q : Int) + 5) = false := by simp; omega
        clear he
        go_wp2_with fail
        go_loop [10, 11] (fun cv kv => ∃ kk : Nat, 2 ≤ kk ∧ kk ≤ 6 ∧ kv = .int .i64 kk ∧ cv = .int .i64 (codeAt x kk)) (fun _ k => 6 - (intOf k).toNat)
        case atStart => exact ⟨2, by omega, by omega, rfl, rfl⟩
        case round =>
          obtain ⟨kk, hk2, hk6, rfl, rfl⟩ := hrel
          by_cases hk : kk < 6
          · have hki : (kk : Int) < 6 := by omega
            have kc := K.out kk hk2 hk
            have hdr := digAt_range x kk hr0 c32
            have HF : Hid (Calls Trym.prog 25 #[.int .u8 (hexd (digAt x kk))] wr fun e w' => e = .returned (.int .i64 (digAt x kk)) ∧ wr = w') := f25_any (digAt x kk) wr hdr.1 hdr.2
            have HC : Hid (codeAt x (kk + 1) = codeAt x kk * 16 + digAt x kk) := codeAt_succ x kk hk2 hk
            have hcr := codeAt_range x kk hr0 c32
            obtain ⟨dd, hdd⟩ : ∃ dd, dd = digAt x kk := ⟨_, rfl⟩
            obtain ⟨hh, hhh⟩ : ∃ hh, hh = hexd (digAt x kk) := ⟨_, rfl⟩
            obtain ⟨cc, hcc⟩ : ∃ cc, cc = codeAt x kk := ⟨_, rfl⟩
            rw [← hhh] at kc HF
            rw [← hdd] at hdr HF HC
            rw [← hcc] at hcr HC ⊢
            have hpk : (q : Int) + (kk : Int) < (n : Int) := by omega
            clear hdd hhh hcc k0 k1
            go_wp2_with fail
            refine Calls.mono HF.out ?_
            rintro e w' ⟨rfl, rfl⟩
            have hdd0 : ¬ dd < 0 := by omega
            go_wp2_with fail
            go_round
            case rel => exact ⟨kk + 1, by omega, by omega, by go_num, by rw [HC.out]⟩
            case measure => simp [intOf]; omega
          · have e : kk = 6 := by omega
            subst e
            have hcx : codeAt x 6 = x := rfl
            rw [hcx]
            have e32 : decide ((32 : Int) ≤ x) = false := by simp; omega
            have e9 : (x == 9) = false := by simpa using c9
            have e10 : (x == 10) = false := by simpa using c10
            have e13 : (x == 13) = false := by simpa using c13
            clear hcx k0 k1 c9 c10 c13 c32
            go_wp2_with (at_builtin; go_must (refine wpList_own rfl (.tmp 141) (.tmp 144) 22 rfl u7 _ rfl (H.out.alloc _) _ _ [x] rfl (src_new wr _ [x] 1 rfl) (B1.out _) ?_); intro v1 w1 H1)
            go_roundw
            case rel => exact ⟨i + 1, by omega, by rw [HSU.out]; go_num, by rw [HT.out]; exact H1⟩
            case measure => simp [intOf]; omega
      · have he : esc x = [x] := esc_plain x (by omega) c34 c92
        rw [he] at HAt HSU HLE
        have k0 : wr.cell? ⟨g, q, none⟩ = some (.int .u8 x) := HGr.out.at HAt.out 0 (by simp)
        have hqn : (q : Int) < (n : Int) := by have := HLE.out; simp only [List.length_cons, List.length_nil] at this; omega
        clear he c10 c13 c9
        go_wp2_with (at_builtin; go_must (refine wpList_own rfl (.tmp 51) (.tmp 53) 22 rfl u7 _ rfl (H.out.alloc _) _ _ [x] rfl (src_new wr _ [x] 1 rfl) (B1.out _) ?_); intro v1 w1 H1)
        go_roundw
        case rel => exact ⟨i + 1, by omega, by rw [HSU.out]; go_num, by rw [HT.out]; exact H1⟩
        case measure => simp [intOf]; omega
    · have e : i = (bs s).length := by rw [bs_length]; omega
      have hat := at_pos HA.out i
      rw [e, List.drop_length, List.flatMap_nil, List.nil_append] at hat
      have hcv : (convert 22 9 u7).run Trym.prog wr = .ok (.string s) wr := by
        have h := H.out.own
        rw [e, List.take_length] at h
        exact conv_row h
      have hfull := posAt_full p (bs s)
      rw [← e] at hat hfull
      obtain ⟨q, hq⟩ : ∃ q, q = posAt p (bs s) i := ⟨_, rfl⟩
      rw [← hq] at hat hfull ⊢
      have HF : Hid (q + 1 = p + (jtext (bs s)).length) := hfull
      have hle := hat.len
      rw [← HN.out, List.length_cons] at hle
      have hc1 : wr.cell? ⟨g, q, none⟩ = some (.int .u8 34) := HGr.out.at (t := [34]) (r := r) hat 0 (by simp)
      have hqn : (q : Int) < (n : Int) := by omega
      clear e hat hfull hq hle
      go_wp2
      go_ret3
      refine ⟨?_, HBL.out⟩
      have e2 : ((p : Int) + ((jtext (bs s)).length : Nat)) = (q : Int) + 1 := by have := HF.out; omega
      rw [e2]
      rfl
end Go.Proofs.Qxb6601750aMods
