/-
  tagKeys (12), tagValues (13), tagBooleans (14).
-/
import Derived.Test.Qxb6601750aModsCopy
namespace Go.Proofs.Qxb6601750aMods
open Go.ChangeShapes Go.WideShapes Go.ChangeAt Go.RowKit

/-- A row that is being filled: the first k have come over, the rest are z. -/
def filledV (vs : List Value) (z : Value) (k : Nat) : List Value := vs.take k ++ List.replicate (vs.length - k) z
theorem filledV_zero (vs : List Value) (z : Value) : filledV vs z 0 = List.replicate vs.length z := by simp [filledV]
theorem filledV_full (vs : List Value) (z : Value) : filledV vs z vs.length = vs := by simp [filledV]
theorem filledV_set (vs : List Value) (z : Value) (k : Nat) (h : k < vs.length) : (filledV vs z k).set k vs[k] = filledV vs z (k + 1) := by
  unfold filledV
  obtain ⟨m, hm⟩ : ∃ m, vs.length - k = m + 1 := ⟨vs.length - k - 1, by omega⟩
  have hl : (vs.take k).length = k := by rw [List.length_take]; omega
  rw [List.set_append_right _ _ (by omega), hl, Nat.sub_self, hm, List.replicate_succ, List.set_cons_zero, List.take_succ_eq_append_getElem h, show vs.length - (k + 1) = m by omega, List.append_assoc]
  rfl

set_option maxHeartbeats 800000 in
set_option maxRecDepth 100000 in
/-- tagKeys. -/
theorem f12_any (a : Option Addr) (len cap : Nat) (T : List TagV) (w : World) (hT : TagsIn w a len cap T) (hsm : T.length ≤ 1048576) :
    Calls Trym.prog 12 #[.slice a len cap] w fun e w' => ∃ g, e = .returned (.slice (some ⟨g, 0, none⟩) T.length T.length) ∧
      w'.ownsRow w.heap.size 9 1 (.slice (some ⟨g, 0, none⟩) T.length T.length) T.length (T.map fun t => Value.string t.1) ∧ Below w.heap.size w w' := by
  obtain ⟨i0, hi, hz0, hz1, hz2⟩ := info_parts Trym.info9'
  obtain rfl := hT.1
  have HT : Hid (TagsIn w a T.length cap T) := hT
  clear hT
  have hTi : (T.length : Int) ≤ 1048576 := by omega
  go_enter Trym.func12, Trym.ntmps12
  go_wp2_with (at_make; refine wpList_make_full _ rfl _ _ 31 rfl w.heap.size 9 i0 (.string ByteArray.empty) 1 Trym.underlying31 hi hz0 hz1 .i64 .i64 _ _ T.length rfl rfl (by simp) (by simp) (by rw [hz2]; omega) (by unfold maxLen; omega) (Nat.le_refl _) ?_; intro w1 hown hgrow)
  have hown0 : w1.ownsRow w.heap.size 9 1 (.slice (some ⟨w.heap.size, 0, none⟩) T.length T.length) T.length (filledV (T.map fun t => Value.string t.1) (.string ByteArray.empty) 0) := by
    rw [filledV_zero, List.length_map, ← toList_madeCells_one]; simpa [Value.cells] using hown
  have hbel0 : Below w.heap.size w w1 := (Below.refl _ _).grown hgrow (Nat.le_refl _) (by simp)
  clear hown hgrow
  go_loopw [4] (fun i wr => ∃ k : Nat, k ≤ T.length ∧ i = .int .i64 k ∧ wr.ownsRow w.heap.size 9 1 (.slice (some ⟨w.heap.size, 0, none⟩) T.length T.length) T.length (filledV (T.map fun t => Value.string t.1) (.string ByteArray.empty) k) ∧ Below w.heap.size w wr)
    (fun i _ => T.length - (intOf i).toNat)
  case atStart => exact ⟨0, Nat.zero_le _, rfl, hown0, hbel0⟩
  case round =>
    clear hown0 hbel0
    obtain ⟨k, hk, rfl, hown, hbel⟩ := hrel
    by_cases hlt : k < T.length
    · obtain ⟨b, off, rfl, hbw, hc⟩ := tags_at HT.out (by omega)
      have hcx : wr.cell? ⟨b, off + k * 3, none⟩ = some (Value.string T[k].1) := (hbel.cell (by exact hbw)).trans (hc k hlt).1
      obtain ⟨v0, hcy⟩ := own_some hown k hlt
      have hfz := hown.frozenAt k
      have o1 := (hown.stored k (Value.string T[k].1)).1
      have e1 := filledV_set (T.map fun t => Value.string t.1) (.string ByteArray.empty) k (by simpa using hlt)
      rw [List.getElem_map] at e1
      rw [e1] at o1
      have hbel' : Below w.heap.size w (wr.setCell ⟨w.heap.size, k, none⟩ (Value.string T[k].1)) := hbel.setCell (Nat.le_refl _) _
      obtain ⟨z, hz⟩ : ∃ z, T[k].1 = z := ⟨_, rfl⟩
      rw [hz] at hcx o1 hbel'
      clear e1 hown hz hc
      have hki : (k : Int) < (T.length : Int) := by omega
      go_wp2
      go_roundw
      case rel => exact ⟨k + 1, by omega, by go_num, o1, hbel'⟩
      case measure => simp [intOf]; omega
    · go_wp2
      go_ret
      have e : k = (T.map fun t => Value.string t.1).length := by simp; omega
      rw [e, filledV_full] at hown
      exact ⟨_, rfl, hown, hbel⟩

set_option maxHeartbeats 800000 in
set_option maxRecDepth 100000 in
/-- tagValues. -/
theorem f13_any (a : Option Addr) (len cap : Nat) (T : List TagV) (w : World) (hT : TagsIn w a len cap T) (hsm : T.length ≤ 1048576) :
    Calls Trym.prog 13 #[.slice a len cap] w fun e w' => ∃ g, e = .returned (.slice (some ⟨g, 0, none⟩) T.length T.length) ∧
      w'.ownsRow w.heap.size 9 1 (.slice (some ⟨g, 0, none⟩) T.length T.length) T.length (T.map fun t => Value.string t.2.1) ∧ Below w.heap.size w w' := by
  obtain ⟨i0, hi, hz0, hz1, hz2⟩ := info_parts Trym.info9'
  obtain rfl := hT.1
  have HT : Hid (TagsIn w a T.length cap T) := hT
  clear hT
  have hTi : (T.length : Int) ≤ 1048576 := by omega
  go_enter Trym.func13, Trym.ntmps13
  go_wp2_with (at_make; refine wpList_make_full _ rfl _ _ 31 rfl w.heap.size 9 i0 (.string ByteArray.empty) 1 Trym.underlying31 hi hz0 hz1 .i64 .i64 _ _ T.length rfl rfl (by simp) (by simp) (by rw [hz2]; omega) (by unfold maxLen; omega) (Nat.le_refl _) ?_; intro w1 hown hgrow)
  have hown0 : w1.ownsRow w.heap.size 9 1 (.slice (some ⟨w.heap.size, 0, none⟩) T.length T.length) T.length (filledV (T.map fun t => Value.string t.2.1) (.string ByteArray.empty) 0) := by
    rw [filledV_zero, List.length_map, ← toList_madeCells_one]; simpa [Value.cells] using hown
  have hbel0 : Below w.heap.size w w1 := (Below.refl _ _).grown hgrow (Nat.le_refl _) (by simp)
  clear hown hgrow
  go_loopw [4] (fun i wr => ∃ k : Nat, k ≤ T.length ∧ i = .int .i64 k ∧ wr.ownsRow w.heap.size 9 1 (.slice (some ⟨w.heap.size, 0, none⟩) T.length T.length) T.length (filledV (T.map fun t => Value.string t.2.1) (.string ByteArray.empty) k) ∧ Below w.heap.size w wr)
    (fun i _ => T.length - (intOf i).toNat)
  case atStart => exact ⟨0, Nat.zero_le _, rfl, hown0, hbel0⟩
  case round =>
    clear hown0 hbel0
    obtain ⟨k, hk, rfl, hown, hbel⟩ := hrel
    by_cases hlt : k < T.length
    · obtain ⟨b, off, rfl, hbw, hc⟩ := tags_at HT.out (by omega)
      have hcx : wr.cell? ⟨b, off + k * 3 + 1, none⟩ = some (Value.string T[k].2.1) := (hbel.cell (by exact hbw)).trans (hc k hlt).2.1
      obtain ⟨v0, hcy⟩ := own_some hown k hlt
      have hfz := hown.frozenAt k
      have o1 := (hown.stored k (Value.string T[k].2.1)).1
      have e1 := filledV_set (T.map fun t => Value.string t.2.1) (.string ByteArray.empty) k (by simpa using hlt)
      rw [List.getElem_map] at e1
      rw [e1] at o1
      have hbel' : Below w.heap.size w (wr.setCell ⟨w.heap.size, k, none⟩ (Value.string T[k].2.1)) := hbel.setCell (Nat.le_refl _) _
      obtain ⟨z, hz⟩ : ∃ z, T[k].2.1 = z := ⟨_, rfl⟩
      rw [hz] at hcx o1 hbel'
      clear e1 hown hz hc
      have hki : (k : Int) < (T.length : Int) := by omega
      go_wp2
      go_roundw
      case rel => exact ⟨k + 1, by omega, by go_num, o1, hbel'⟩
      case measure => simp [intOf]; omega
    · go_wp2
      go_ret
      have e : k = (T.map fun t => Value.string t.2.1).length := by simp; omega
      rw [e, filledV_full] at hown
      exact ⟨_, rfl, hown, hbel⟩

set_option maxHeartbeats 800000 in
set_option maxRecDepth 100000 in
/-- tagBooleans. -/
theorem f14_any (a : Option Addr) (len cap : Nat) (T : List TagV) (w : World) (hT : TagsIn w a len cap T) (hsm : T.length ≤ 1048576) :
    Calls Trym.prog 14 #[.slice a len cap] w fun e w' => ∃ g, e = .returned (.slice (some ⟨g, 0, none⟩) T.length T.length) ∧
      w'.ownsRow w.heap.size 4 1 (.slice (some ⟨g, 0, none⟩) T.length T.length) T.length (T.map fun t => Value.bool t.2.2) ∧ Below w.heap.size w w' := by
  obtain ⟨i0, hi, hz0, hz1, hz2⟩ := info_parts Trym.info4'
  obtain rfl := hT.1
  have HT : Hid (TagsIn w a T.length cap T) := hT
  clear hT
  have hTi : (T.length : Int) ≤ 1048576 := by omega
  go_enter Trym.func14, Trym.ntmps14
  go_wp2_with (at_make; refine wpList_make_full _ rfl _ _ 33 rfl w.heap.size 4 i0 (.bool false) 1 Trym.underlying33 hi hz0 hz1 .i64 .i64 _ _ T.length rfl rfl (by simp) (by simp) (by rw [hz2]; omega) (by unfold maxLen; omega) (Nat.le_refl _) ?_; intro w1 hown hgrow)
  have hown0 : w1.ownsRow w.heap.size 4 1 (.slice (some ⟨w.heap.size, 0, none⟩) T.length T.length) T.length (filledV (T.map fun t => Value.bool t.2.2) (.bool false) 0) := by
    rw [filledV_zero, List.length_map, ← toList_madeCells_one]; simpa [Value.cells] using hown
  have hbel0 : Below w.heap.size w w1 := (Below.refl _ _).grown hgrow (Nat.le_refl _) (by simp)
  clear hown hgrow
  go_loopw [4] (fun i wr => ∃ k : Nat, k ≤ T.length ∧ i = .int .i64 k ∧ wr.ownsRow w.heap.size 4 1 (.slice (some ⟨w.heap.size, 0, none⟩) T.length T.length) T.length (filledV (T.map fun t => Value.bool t.2.2) (.bool false) k) ∧ Below w.heap.size w wr)
    (fun i _ => T.length - (intOf i).toNat)
  case atStart => exact ⟨0, Nat.zero_le _, rfl, hown0, hbel0⟩
  case round =>
    clear hown0 hbel0
    obtain ⟨k, hk, rfl, hown, hbel⟩ := hrel
    by_cases hlt : k < T.length
    · obtain ⟨b, off, rfl, hbw, hc⟩ := tags_at HT.out (by omega)
      have hcx : wr.cell? ⟨b, off + k * 3 + 2, none⟩ = some (Value.bool T[k].2.2) := (hbel.cell (by exact hbw)).trans (hc k hlt).2.2
      obtain ⟨v0, hcy⟩ := own_some hown k hlt
      have hfz := hown.frozenAt k
      have o1 := (hown.stored k (Value.bool T[k].2.2)).1
      have e1 := filledV_set (T.map fun t => Value.bool t.2.2) (.bool false) k (by simpa using hlt)
      rw [List.getElem_map] at e1
      rw [e1] at o1
      have hbel' : Below w.heap.size w (wr.setCell ⟨w.heap.size, k, none⟩ (Value.bool T[k].2.2)) := hbel.setCell (Nat.le_refl _) _
      obtain ⟨z, hz⟩ : ∃ z, T[k].2.2 = z := ⟨_, rfl⟩
      rw [hz] at hcx o1 hbel'
      clear e1 hown hz hc
      have hki : (k : Int) < (T.length : Int) := by omega
      go_wp2
      go_roundw
      case rel => exact ⟨k + 1, by omega, by go_num, o1, hbel'⟩
      case measure => simp [intOf]; omega
    · go_wp2
      go_ret
      have e : k = (T.map fun t => Value.bool t.2.2).length := by simp; omega
      rw [e, filledV_full] at hown
      exact ⟨_, rfl, hown, hbel⟩
end Go.Proofs.Qxb6601750aMods
