/-
  IsID (7): true of any text of 36 bytes that answers Ok at each place.
-/
import Derived.Test.Qxb6602064aModsPlain
namespace Go.Proofs.Qxb6602064aMods
open Go.ChangeShapes Go.WideShapes Go.ChangeAt Go.RowKit

set_option maxRecDepth 100000 in
set_option maxHeartbeats 1000000 in
/-- IsID. -/
theorem f7_any (w : World) (s : ByteArray) (hs : s.size = 36) (hok : ∀ j (h : j < s.size), Ok j (s[j].toNat : Int)) :
    Calls Trym.prog 7 #[.string s] w fun e w' => e = .returned (.bool true) ∧ w = w' := by
  have H : Hid (∀ j (h : j < s.size), Ok j (s[j].toNat : Int)) := hok
  have hn : ((s.size : Int) != 36) = false := by rw [hs]; rfl
  have HS : Hid (s.size = 36) := hs
  have hb : (s.size : Int) ≤ 1000 := by omega
  clear hok hs
  go_enter Trym.func7, Trym.ntmps7
  go_wp2_with fail
  go_loop [3] (fun iv => ∃ i : Nat, i ≤ s.size ∧ iv = .int .i64 i) (fun i => s.size - (intOf i).toNat)
  case atStart => exact ⟨0, Nat.zero_le _, rfl⟩
  case round =>
    obtain ⟨i, hi, rfl⟩ := hrel
    have hsz := HS.out
    by_cases hlt : i < s.size
    · have hii : (i : Int) < (s.size : Int) := by omega
      have hc := H.out i hlt
      have hc0 : 0 ≤ (s[i].toNat : Int) := by omega
      have hc1 : (s[i].toNat : Int) < 256 := by have := s[i].toNat_lt; omega
      unfold Ok at hc
      by_cases hd : i = 8 ∨ i = 13 ∨ i = 18 ∨ i = 23
      · rw [if_pos hd] at hc
        have q : ((s[i].toNat : Int) != 45) = false := by rw [hc]; rfl
        clear hc hsz
        by_cases h8 : i = 8
        · have q1 : ((i : Int) == 8) = true := by rw [h8]; rfl
          clear h8 hd
          go_wp2_with fail
          go_round
          case rel => exact ⟨i + 1, by omega, by go_num⟩
          case measure => simp [intOf]; omega
        by_cases h13 : i = 13
        · have q1 : ((i : Int) == 8) = false := by rw [h13]; rfl
          have q2 : ((i : Int) == 13) = true := by rw [h13]; rfl
          clear h8 h13 hd
          go_wp2_with fail
          go_round
          case rel => exact ⟨i + 1, by omega, by go_num⟩
          case measure => simp [intOf]; omega
        by_cases h18 : i = 18
        · have q1 : ((i : Int) == 8) = false := by rw [h18]; rfl
          have q2 : ((i : Int) == 13) = false := by rw [h18]; rfl
          have q3 : ((i : Int) == 18) = true := by rw [h18]; rfl
          clear h8 h13 h18 hd
          go_wp2_with fail
          go_round
          case rel => exact ⟨i + 1, by omega, by go_num⟩
          case measure => simp [intOf]; omega
        have h23 : i = 23 := by omega
        have q1 : ((i : Int) == 8) = false := by rw [h23]; rfl
        have q2 : ((i : Int) == 13) = false := by rw [h23]; rfl
        have q3 : ((i : Int) == 18) = false := by rw [h23]; rfl
        have q4 : ((i : Int) == 23) = true := by rw [h23]; rfl
        clear h8 h13 h18 h23 hd
        go_wp2_with fail
        go_round
        case rel => exact ⟨i + 1, by omega, by go_num⟩
        case measure => simp [intOf]; omega
      · rw [if_neg hd] at hc
        have q1 : ((i : Int) == 8) = false := by simp; omega
        have q2 : ((i : Int) == 13) = false := by simp; omega
        have q3 : ((i : Int) == 18) = false := by simp; omega
        have q4 : ((i : Int) == 23) = false := by simp; omega
        clear hd hsz
        rcases hc with ⟨a1, a2⟩ | ⟨a1, a2⟩
        · go_wp2_with fail
          go_round
          case rel => exact ⟨i + 1, by omega, by go_num⟩
          case measure => simp [intOf]; omega
        · have a3 : 48 ≤ (s[i].toNat : Int) := by omega
          have a4 : ¬ (s[i].toNat : Int) ≤ 57 := by omega
          go_wp2_with fail
          go_round
          case rel => exact ⟨i + 1, by omega, by go_num⟩
          case measure => simp [intOf]; omega
    · have hii : ¬ (i : Int) < (s.size : Int) := by omega
      clear hsz
      go_wp2_with fail
      go_ret
      exact ⟨rfl, rfl⟩
end Go.Proofs.Qxb6602064aMods
