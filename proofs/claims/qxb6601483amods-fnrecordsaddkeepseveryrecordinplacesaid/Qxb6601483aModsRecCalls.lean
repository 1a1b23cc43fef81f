import Derived.Test.Qxb6601483aModsAdd
import Derived.Deep.QuietTactic
import Derived.BigQuiet
namespace Go.Proofs.Qxb6601483aMods
open Go.ChangeShapes Go.WideShapes Go.ChangeAt Go.RowKit
theorem size38 : (Trym.prog.info? 38).map (·.size) = some 20 := by kernel_rfl
theorem size50 : (Trym.prog.info? 50).map (·.size) = some 20 := by kernel_rfl
theorem size40 : (Trym.prog.info? 40).map (·.size) = some 22 := by kernel_rfl

theorem and4095 (i : Nat) (h : i < 1000000) : bits .and .i64 (i : Int) 4095 = ((i % 4096 : Nat) : Int) := by
  show IntKind.i64.wrap (((BitVec.ofInt 64 (i : Int) &&& BitVec.ofInt 64 ((4095 : Nat) : Int)).toNat : Nat) : Int) = _
  rw [BitVec.toNat_and, ofInt_u64 i (by omega), ofInt_u64 4095 (by omega), nat_mask12, IntKind.wrap_i64]
  omega

theorem build52 (ids : List Value) (hids : ids.length = 20) (u v : Value) : ∃ Y Y1 : Array Value, List.foldl (fun (c : Array Value) (x : Value × Nat) => c.setIfInBounds x.2 x.1) #[Value.int .u8 0, Value.int .u8 0, Value.int .u8 0, Value.int .u8 0, Value.int .u8 0, Value.int .u8 0, Value.int .u8 0, Value.int .u8 0, Value.int .u8 0, Value.int .u8 0, Value.int .u8 0, Value.int .u8 0, Value.int .u8 0, Value.int .u8 0, Value.int .u8 0, Value.int .u8 0, Value.int .u8 0, Value.int .u8 0, Value.int .u8 0, Value.int .u8 0, Value.int .u32 0, Value.int .i64 0] ids.zipIdx = Y ∧ Y.size = 22 ∧ Y.setIfInBounds 20 u = Y1 ∧ Y1.size = 22 ∧ Y1.setIfInBounds 21 v = (ids ++ [u, v]).toArray := by
  have e := fold_aux ids [] [Value.int .u8 0, Value.int .u8 0, Value.int .u8 0, Value.int .u8 0, Value.int .u8 0, Value.int .u8 0, Value.int .u8 0, Value.int .u8 0, Value.int .u8 0, Value.int .u8 0, Value.int .u8 0, Value.int .u8 0, Value.int .u8 0, Value.int .u8 0, Value.int .u8 0, Value.int .u8 0, Value.int .u8 0, Value.int .u8 0, Value.int .u8 0, Value.int .u8 0, Value.int .u32 0, Value.int .i64 0] (by simp [hids])
  simp only [List.nil_append, List.length_nil, hids] at e
  have e3 : List.drop 20 [Value.int .u8 0, Value.int .u8 0, Value.int .u8 0, Value.int .u8 0, Value.int .u8 0, Value.int .u8 0, Value.int .u8 0, Value.int .u8 0, Value.int .u8 0, Value.int .u8 0, Value.int .u8 0, Value.int .u8 0, Value.int .u8 0, Value.int .u8 0, Value.int .u8 0, Value.int .u8 0, Value.int .u8 0, Value.int .u8 0, Value.int .u8 0, Value.int .u8 0, Value.int .u32 0, Value.int .i64 0] = [Value.int .u32 0, .int .i64 0] := rfl
  rw [e3] at e
  refine ⟨_, _, e, by simp [hids], rfl, by simp [hids], ?_⟩
  have e1 : (ids ++ [Value.int .u32 0, .int .i64 0]).toArray.setIfInBounds 20 u = (ids ++ [u, .int .i64 0]).toArray := by
    rw [List.setIfInBounds_toArray, List.set_append_right _ _ (by omega), hids]; rfl
  rw [e1, List.setIfInBounds_toArray, List.set_append_right _ _ (by omega), hids]; rfl

set_option maxHeartbeats 1000000 in
set_option maxRecDepth 100000 in
/-- ZZRecordsAdd. -/
theorem f14_any (br nb : Nat) (T : Nat → Prop) (R : List (List Value)) (bv : Value) (SV : Nat → Value) (ids : List Value) (c d : Int) (w : World) (hst : StN T w br R nb bv SV) (hnb : nb = nbOf R.length) (hm : R.length < 40000) (hnew : ∀ k, w.heap.size ≤ k → T k)
    (hids : ids.length = 20) (hc1 : ∀ v ∈ ids, v.oneCell' = true) :
    Calls Trym.prog 14 #[.pointer (some ⟨br, 0, none⟩), .agg ids.toArray, .int .u32 c, .int .i64 d] w fun e w' => e = .returned (.tuple #[]) ∧ ∃ bv' SV', StN T w' br (R ++ [ids ++ [.int .u32 c, .int .i64 d]]) (nbOf (R.length + 1)) bv' SV' ∧ Grew w w' T ∧
      ∀ b, b < nbOf R.length → (1 ≤ b ∨ 4096 ≤ R.length) → (SV' b).ownBlock = (SV b).ownBlock := by
  have hc2 : ∀ v ∈ ids ++ [Value.int .u32 c, .int .i64 d], v.oneCell' = true := by
    intro v hv
    rcases List.mem_append.1 hv with h | h
    · exact hc1 v h
    · simp only [List.mem_cons, List.not_mem_nil, or_false] at h
      rcases h with rfl | rfl <;> rfl
  have hst1 : StN T (w.alloc (.cells ids.toArray 38)) br R nb bv SV := hst.grew ((Grew.refl w (fun _ => False)).alloc _) id (fun _ _ h => h) (fun _ _ _ _ h => h)
  obtain ⟨Y, Y1, b1, b2, b3, b4, b5⟩ := build52 ids hids (.int .u32 c) (.int .i64 d)
  have hn1 : ∀ k, (w.alloc (.cells ids.toArray 38)).heap.size ≤ k → T k := fun k hk => hnew k (by simp at hk; omega)
  have hl : (ids ++ [Value.int .u32 c, .int .i64 d]).length = 22 := by simp [hids]
  have H := f23_any br nb T R bv SV (ids ++ [.int .u32 c, .int .i64 d]) (w.alloc (.cells ids.toArray 38)) hst1 hnb hm hn1 hl hc2
  clear hst hc1 hn1 hnew
  go_enter Trym.func14, Trym.ntmps14
  go_wp2_with (refine wpList_load_mid rfl 38 _ rfl w.heap.size 0 rfl ids _ (range_of_block (heap_alloc_new w _)) Trym.underlying38 rfl (by rw [hids]; exact size38) ?_)
  refine H.mono ?_
  rintro e w' ⟨he, bv', SV', h1, h2, h3⟩
  subst he
  go_wp2
  go_end0
  exact ⟨rfl, bv', SV', h1, ((Grew.refl w T).alloc _).trans h2, h3⟩

set_option maxHeartbeats 1000000 in
set_option maxRecDepth 100000 in
/-- (*records).at. -/
theorem f24_any (br i : Nat) (T : Nat → Prop) (R : List (List Value)) (nb : Nat) (bv : Value) (SV : Nat → Value) (w : World) (hst : StN T w br R nb bv SV) (hnb : nb = nbOf R.length) (hi : i < R.length) (hm : R.length ≤ 32768) :
    Calls Trym.prog 24 #[.pointer (some ⟨br, 0, none⟩), .int .i64 i] w fun e w' => ∃ g, e = .returned (.pointer (some ⟨g, i % 4096 * 22, none⟩)) ∧ (SV (i / 4096)).ownBlock = some g ∧ w = w' := by
  have hb : i / 4096 < nb := by rw [hnb]; unfold nbOf; omega
  obtain ⟨gb, capb, rfl, hgb, hTgb, hcells⟩ := hst.shape (by omega)
  obtain ⟨hc0, hf0⟩ := hst.cell0
  obtain ⟨g, cp, hsv⟩ := owns_shape (hst.rows (i / 4096) hb) (by unfold lenAt; omega)
  have hc := (hcells _ hb).1
  rw [hsv] at hc
  obtain ⟨ln, hln⟩ : ∃ ln, lenAt R.length (i / 4096) = ln := ⟨_, rfl⟩
  have hli : ((i % 4096 : Nat) : Int) < (ln : Int) := by rw [← hln]; unfold lenAt; omega
  have hl0 : (0 : Int) ≤ ((i % 4096 : Nat) : Int) := by omega
  rw [hln] at hc hsv
  have HS : Hid (SV (i / 4096) = Value.slice (some { block := g, off := 0 }) ln cp) := hsv
  have hand := and4095 i (by omega)
  have hbi : ((i : Int) / 4096) < (nb : Int) := by omega
  clear hsv hcells hln hnb
  go_enter Trym.func24, Trym.ntmps24
  go_wp2
  go_ret
  exact ⟨g, rfl, by rw [HS.out]; rfl, rfl⟩

/-- ZZRecordsAt. -/
theorem f20_any (br i : Nat) (T : Nat → Prop) (R : List (List Value)) (nb : Nat) (bv : Value) (SV : Nat → Value) (w : World) (hst : StN T w br R nb bv SV) (hnb : nb = nbOf R.length) (hi : i < R.length) (hm : R.length ≤ 32768) :
    Calls Trym.prog 20 #[.pointer (some ⟨br, 0, none⟩), .int .i64 i] w fun e w' => ∃ g, e = .returned (.pointer (some ⟨g, i % 4096 * 22, none⟩)) ∧ (SV (i / 4096)).ownBlock = some g ∧ w = w' := by
  go_enter Trym.func20, Trym.ntmps20
  go_wp2_with (go_at_call 24; refine (f24_any br i T R nb bv SV _ hst hnb hi hm).mono ?_; rintro e w' ⟨g, rfl, hg, rfl⟩)
  go_ret
  exact ⟨g, rfl, hg, rfl⟩

/-- It answers a bool. -/
def AnsBool (e : Ending) : Prop := ∃ b, e = .returned (.bool b)

set_option maxRecDepth 100000 in
/-- zzBytes_FnRecordsAddNeverMovesFullBlocks: whatever it answers, it writes nothing. -/
theorem f21_any (a : Option Addr) (n c : Nat) (w : World) (hn : n ≤ 9223372036854775807) :
    Calls Trym.prog 21 #[.slice a n c] w fun e w' => AnsBool e ∧ w = w' := by
  by_cases h1 : (1048576 : Int) < (n : Int)
  · go_enter Trym.func21, Trym.ntmps21
    go_wp2
    go_ret
    exact ⟨⟨false, rfl⟩, rfl⟩
  · have hd : decide ((1048576 : Int) < (n : Int)) = false := by simp; omega
    go_enter Trym.func21, Trym.ntmps21
    go_wp2
    go_loop [3, 4] (fun z i => ∃ k : Nat, k ≤ n ∧ i = .int .i64 k ∧ ∃ q : Int, z = .int .i64 q ∧ 0 ≤ q ∧ q ≤ 1048576) (fun _ i => n - (intOf i).toNat)
    case atStart => exact ⟨0, Nat.zero_le _, rfl, n, rfl, by omega, by omega⟩
    case round =>
      obtain ⟨k, hk, rfl, q, rfl, hq0, hq⟩ := hrel
      by_cases hlt : k < n
      · by_cases hq2 : q + 20 ≤ 1048576
        · iterate 26 go_step
          refine wp_cond_false rfl ?_
          go_wp2
          go_round
          case rel => exact ⟨k + 1, by omega, by go_num, q + 20, by go_num, by omega, by omega⟩
          case measure => simp [intOf]; omega
        · iterate 26 go_step
          refine wp_cond_false rfl ?_
          go_wp2
          go_ret
          exact ⟨⟨false, rfl⟩, rfl⟩
      · go_wp2
        go_ret
        exact ⟨⟨true, rfl⟩, rfl⟩
end Go.Proofs.Qxb6601483aMods
