/-
  The reader's small functions: expectText (21), hexValue (25).
-/
import Derived.Test.Qxb6601750aModsMatch
import Derived.Laws.IdiomStrings
import Derived.Laws.BytesArg
namespace Go.Proofs.Qxb6601750aMods
open Go.ChangeShapes Go.WideShapes Go.ChangeAt Go.RowKit

/-- At p the row reads on with r. -/
def At (zs : List Int) (p : Nat) (r : List Int) : Prop := p ≤ zs.length ∧ zs.drop p = r
theorem At.step {zs t r : List Int} {p : Nat} (h : At zs p (t ++ r)) : At zs (p + t.length) r := by
  obtain ⟨h1, h2⟩ := h
  have h3 : (zs.drop p).length = t.length + r.length := by rw [h2, List.length_append]
  rw [List.length_drop] at h3
  refine ⟨by omega, ?_⟩
  rw [← List.drop_drop, h2, List.drop_left]
theorem At.len {zs r : List Int} {p : Nat} (h : At zs p r) : zs.length = p + r.length := by
  have h3 : (zs.drop p).length = r.length := by rw [h.2]
  rw [List.length_drop] at h3
  have := h.1
  omega
theorem At.get {zs t r : List Int} {p : Nat} (h : At zs p (t ++ r)) (i : Nat) (hi : i < t.length) : ∃ hp : p + i < zs.length, zs[p + i] = t[i] := by
  have hl := h.len
  rw [List.length_append] at hl
  refine ⟨by omega, ?_⟩
  have h1 : (zs.drop p)[i]? = some t[i] := by rw [h.2, List.getElem?_append_left hi, List.getElem?_eq_getElem hi]
  rw [List.getElem?_drop] at h1
  exact (List.getElem?_eq_some_iff.1 h1).2

/-- The bytes of a row, laid at a block's head, that is read. -/
def GotIn (w : World) (g : Nat) (zs : List Int) : Prop := g < w.heap.size ∧ ∀ j (_ : j < zs.length), w.cell? ⟨g, j, none⟩ = some (.int .u8 zs[j])
theorem GotIn.below {w w' : World} {B g : Nat} {zs : List Int} (h : GotIn w g zs) (hb : Below B w w') (hg : g < B) : GotIn w' g zs :=
  ⟨Nat.lt_of_lt_of_le h.1 hb.size, fun j hj => (hb.cell (by exact hg)).trans (h.2 j hj)⟩
theorem GotIn.at {w : World} {g : Nat} {zs t r : List Int} {p : Nat} (h : GotIn w g zs) (ha : At zs p (t ++ r)) (i : Nat) (hi : i < t.length) : w.cell? ⟨g, p + i, none⟩ = some (.int .u8 t[i]) := by
  obtain ⟨hp, e⟩ := ha.get i hi
  rw [h.2 (p + i) hp, e]

/-- hexValue at a digit. -/
theorem f25_any (d : Int) (w : World) (h1 : 0 ≤ d) (h2 : d < 16) :
    Calls Trym.prog 25 #[.int .u8 (hexd d)] w fun e w' => e = .returned (.int .i64 d) ∧ w = w' := by
  by_cases h : d < 10
  · have e : hexd d = 48 + d := by unfold hexd; rw [if_pos h]
    rw [e]
    obtain ⟨x, hx⟩ : ∃ x, x = 48 + d := ⟨_, rfl⟩
    rw [← hx]
    have HX : Hid (d = x - 48) := by show _ = _; omega
    have hx1 : 48 ≤ x := by omega
    have hx2 : x ≤ 57 := by omega
    clear e hx
    go_enter Trym.func25, Trym.ntmps25
    go_wp2
    go_ret
    exact ⟨by rw [HX.out]; rfl, rfl⟩
  · have e : hexd d = 97 + d - 10 := by unfold hexd; rw [if_neg h]
    rw [e]
    obtain ⟨x, hx⟩ : ∃ x, x = 97 + d - 10 := ⟨_, rfl⟩
    rw [← hx]
    have HX : Hid (d = x - 97 + 10) := by show _ = _; omega
    have hx1 : 97 ≤ x := by omega
    have hx2 : x ≤ 102 := by omega
    have hx3 : ¬ x ≤ 57 := by omega
    have hx4 : 48 ≤ x := by omega
    clear e hx
    go_enter Trym.func25, Trym.ntmps25
    go_wp2
    go_ret
    exact ⟨by rw [HX.out]; rfl, rfl⟩

set_option maxRecDepth 100000 in
/-- expectText, where the text stands. -/
theorem f21_any (g c : Nat) (zs r : List Int) (p : Nat) (s : ByteArray) (w : World) (hg : GotIn w g zs) (ha : At zs p (bs s ++ r)) (hl : zs.length ≤ 1000000000000) :
    Calls Trym.prog 21 #[.slice (some ⟨g, 0, none⟩) zs.length c, .int .i64 (p : Int), .string s] w fun e w' => e = .returned (.tuple #[.int .i64 ((p : Int) + s.size), .bool true]) ∧ Below w.heap.size w w' := by
  have hlen := ha.len
  rw [List.length_append, bs_length] at hlen
  obtain ⟨n, hn⟩ : ∃ n, n = zs.length := ⟨_, rfl⟩
  have HN : Hid (n = zs.length) := hn
  have HG : Hid (GotIn w g zs) := hg
  have HA : Hid (At zs p (bs s ++ r)) := ha
  have h1 : (n : Int) ≤ 1000000000000 := by omega
  have h2 : (p : Int) + (s.size : Int) ≤ (n : Int) := by omega
  have h3 : ¬ (n : Int) - (p : Int) < (s.size : Int) := by omega
  rw [← hn]
  clear hn hg ha hlen hl
  go_enter Trym.func21, Trym.ntmps21
  go_wp2_with fail
  go_loopw [8] (fun i wr => ∃ k : Nat, k ≤ s.size ∧ i = .int .i64 k ∧ Below w.heap.size w wr) (fun i _ => s.size - (intOf i).toNat)
  case atStart => exact ⟨0, Nat.zero_le _, rfl, Below.refl _ _⟩
  case round =>
    obtain ⟨k, hk, rfl, hbel⟩ := hrel
    by_cases hlt : k < s.size
    · have hc : wr.cell? ⟨g, p + k, none⟩ = some (.int .u8 (s[k].toNat : Int)) := by
        have h := (HG.out.below hbel HG.out.1).at HA.out k (by rw [bs_length]; exact hlt)
        rw [bs_getElem s k hlt] at h
        exact h
      have hki : (k : Int) < (s.size : Int) := by omega
      have hpk : (p : Int) + (k : Int) < (n : Int) := by omega
      go_wp2_with fail
      go_region
      all_goals
        go_wp2_with fail
        go_roundw
        case rel => exact ⟨k + 1, by omega, by go_num, hbel.drew⟩
        case measure => simp [intOf]; omega
    · go_wp2
      go_ret2
      exact ⟨rfl, hbel⟩
end Go.Proofs.Qxb6601750aMods
