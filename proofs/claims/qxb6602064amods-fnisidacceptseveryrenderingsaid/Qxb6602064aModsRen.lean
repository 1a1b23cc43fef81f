/-
  zzRender (9).
-/
import Derived.Test.Qxb6602064aModsIs
namespace Go.Proofs.Qxb6602064aMods
open Go.ChangeShapes Go.WideShapes Go.ChangeAt Go.RowKit

/-- The string of a row of bytes. -/
def strOf (l : List Int) : ByteArray := ⟨(l.map fun c => UInt8.ofNat c.toNat).toArray⟩
theorem bs_strOf (l : List Int) (h : ∀ c ∈ l, 0 ≤ c ∧ c < 256) : bs (strOf l) = l := by
  unfold bs strOf
  simp only [List.map_map]
  conv => rhs; rw [← List.map_id l]
  refine List.map_congr_left fun c hc => ?_
  obtain ⟨h0, h1⟩ := h c hc
  simp only [Function.comp, id, UInt8.toNat_ofNat']
  omega
theorem hexd_range (d : Int) (h0 : 0 ≤ d) (h1 : d < 16) : 0 ≤ hexd d ∧ hexd d < 256 := by
  rcases hexd_ok d h0 h1 with h | h <;> omega
theorem ren_range (f : Nat → Int) (hf : ∀ i, 0 ≤ f i ∧ f i < 256) (k : Nat) : ∀ c ∈ ren f k, 0 ≤ c ∧ c < 256 := by
  induction k with
  | zero => simp [ren]
  | succ k ih =>
    intro c hc
    have hk := hf k
    simp only [ren, piece, List.mem_append] at hc
    rcases hc with hc | (hc | hc) | hc
    · exact ih c hc
    · split at hc
      · simp at hc; omega
      · simp at hc
    · simp only [List.mem_singleton] at hc; subst hc; exact hexd_range _ (by omega) (by omega)
    · simp only [List.mem_singleton] at hc; subst hc; exact hexd_range _ (by omega) (by omega)

theorem dig_eq (d : Int) (h0 : 0 ≤ d) (h1 : d < 16) : (((⟨#[48, 49, 50, 51, 52, 53, 54, 55, 56, 57, 97, 98, 99, 100, 101, 102]⟩ : ByteArray)[d.toNat]'(by have : d.toNat < 16 := (by omega); exact this)).toNat : Int) = hexd d := by
  have e := dig_at d.toNat (by omega)
  rw [Int.toNat_of_nonneg h0] at e
  exact e

/-- What zzRender answers. -/
def Rendered (f : Nat → Int) (w : World) (e : Ending) (w' : World) : Prop := e = .returned (.string (strOf (ren f 16))) ∧ Below w.heap.size w w'

set_option maxRecDepth 100000 in
set_option maxHeartbeats 1000000 in
/-- zzRender. -/
theorem f9_any (w : World) (A : Array Value) (f : Nat → Int) (hf : ∀ i, 0 ≤ f i ∧ f i < 256) (hA : ∀ i, i < 16 → A[i]? = some (.int .u8 (f i))) :
    Calls Trym.prog 9 #[.agg A] w (Rendered f w) := by
  obtain ⟨bc, hbc, hmk⟩ := run_make29
  have HF : Hid (∀ i, 0 ≤ f i ∧ f i < 256) := hf
  have HC : Hid (∀ i, i < 16 → (w.alloc (.cells A 23)).cell? ⟨w.heap.size, i, none⟩ = some (.int .u8 (f i))) := fun i hi => by
    have := hA i hi
    simp [this]
  have HO : Hid (Own (fun k => w.heap.size + 1 ≤ k) (w.alloc (.cells A 23)) ((w.alloc (.cells A 23)).alloc (.cells bc 5)) (.slice (some ⟨w.heap.size + 1, 0, none⟩) 0 36) []) := by
    have hz : (w.alloc (.cells A 23)).heap.size = w.heap.size + 1 := by simp
    refine ⟨?_, (Grew.refl _ _).alloc _, fun k hk => by simp only [Value.ownBlock, Option.some.injEq] at hk; omega, fun k hk => by omega⟩
    rw [← hz]
    exact World.ownsRow_made (base := 0) (e := 5) (size := 1) _ bc 36 (Nat.zero_le _) (by unfold maxLen; omega) (by omega)
  clear hbc hf hA
  go_enter Trym.func9, Trym.ntmps9
  go_wp2_with fail
  go_loopw [3, 4] (fun bv iv wr => ∃ i : Nat, i ≤ 16 ∧ iv = .int .i64 i ∧ Own (fun k => w.heap.size + 1 ≤ k) (w.alloc (.cells A 23)) wr bv (ren f i)) (fun _ i _ => 16 - (intOf i).toNat)
  case atStart => exact ⟨0, Nat.zero_le _, rfl, HO.out⟩
  case round =>
    clear HO hmk
    obtain ⟨i, hi, rfl, H0⟩ := hrel
    have H : Hid (Own (fun k => w.heap.size + 1 ≤ k) (w.alloc (.cells A 23)) wr u3 (ren f i)) := H0
    clear H0
    by_cases hlt : i < 16
    · have hii : (i : Int) < 16 := by omega
      have hc := HC.out i hlt
      have hr := HF.out i
      have HX : Hid (ren f (i + 1) = ren f i ++ piece f i) := rfl
      have hl := ren_le f i
      unfold piece at HX
      obtain ⟨x, hx⟩ : ∃ x, x = f i := ⟨_, rfl⟩
      rw [← hx] at hc hr HX
      obtain ⟨ys, hys⟩ : ∃ ys, ys = ren f i := ⟨_, rfl⟩
      rw [← hys] at HX H hl
      have HC' : Hid ((w.alloc (.cells A 23)).cell? ⟨w.heap.size, i, none⟩ = some (.int .u8 x)) := hc
      obtain ⟨hr0, hr1⟩ := hr
      have hcr : wr.cell? ⟨w.heap.size, i, none⟩ = some (.int .u8 x) := by
        rw [← hc]
        exact H.out.grew.cell (by simp) (by simp)
      clear hc hx hys
      have hq0 : 0 ≤ x / 16 := by omega
      have hq1 : x / 16 < 16 := by omega
      have hm0 : 0 ≤ x % 16 := by omega
      have hm1 : x % 16 < 16 := by omega
      have ha := and15 x hr0 hr1
      have B1 : Hid (∀ y : Int, ys.length + [y].length ≤ 1000000000000) := fun y => by simp; omega
      have B2 : Hid (∀ z y : Int, (ys ++ [z]).length + [y].length ≤ 1000000000000) := fun z y => by simp; omega
      have B3 : Hid (∀ t z y : Int, (ys ++ [t] ++ [z]).length + [y].length ≤ 1000000000000) := fun t z y => by simp; omega
      clear hl
      by_cases hd : i = 4 ∨ i = 6 ∨ i = 8 ∨ i = 10
      · rw [if_pos hd] at HX
        by_cases e4 : i = 4
        · have q4 : ((i : Int) == 4) = true := by rw [e4]; rfl
          clear hd e4
          go_wp2_with (first | (at_builtin; refine wpList_own rfl (.tmp 24) (.tmp 25) 29 rfl u3 _ rfl (H.out.alloc _) _ _ [45] rfl (src_new wr _ [45] 1 rfl) (B1.out _) ?_; intro v1 w1 H1; have hcr1 := (H1.grew.cell (p := ⟨w.heap.size, i, none⟩) (by simp) (by simp)).trans HC'.out) | (at_builtin; refine wpList_own rfl (.tmp 27) (.tmp 33) 29 rfl v1 _ rfl (H1.alloc _) _ _ [_] rfl (src_new w1 _ [_] 1 rfl) (B2.out _ _) ?_; intro v2 w2 H2; have hcr2 := (H2.grew.cell (p := ⟨w.heap.size, i, none⟩) (by simp) (by simp)).trans HC'.out) | (at_builtin; refine wpList_own rfl (.tmp 35) (.tmp 41) 29 rfl v2 _ rfl (H2.alloc _) _ _ [_] rfl (src_new w2 _ [_] 1 rfl) (B3.out _ _ _) ?_; intro v3 w3 H3))
          go_roundw
          case rel =>
            rw [dig_eq _ hq0 hq1, dig_eq _ hm0 hm1] at H3
            exact ⟨i + 1, by omega, by go_num, by rw [HX.out]; simpa using H3⟩
          case measure => simp [intOf]; omega
        by_cases e6 : i = 6
        · have q4 : ((i : Int) == 4) = false := by rw [e6]; rfl
          have q6 : ((i : Int) == 6) = true := by rw [e6]; rfl
          clear hd e4 e6
          go_wp2_with (first | (at_builtin; refine wpList_own rfl (.tmp 24) (.tmp 25) 29 rfl u3 _ rfl (H.out.alloc _) _ _ [45] rfl (src_new wr _ [45] 1 rfl) (B1.out _) ?_; intro v1 w1 H1; have hcr1 := (H1.grew.cell (p := ⟨w.heap.size, i, none⟩) (by simp) (by simp)).trans HC'.out) | (at_builtin; refine wpList_own rfl (.tmp 27) (.tmp 33) 29 rfl v1 _ rfl (H1.alloc _) _ _ [_] rfl (src_new w1 _ [_] 1 rfl) (B2.out _ _) ?_; intro v2 w2 H2; have hcr2 := (H2.grew.cell (p := ⟨w.heap.size, i, none⟩) (by simp) (by simp)).trans HC'.out) | (at_builtin; refine wpList_own rfl (.tmp 35) (.tmp 41) 29 rfl v2 _ rfl (H2.alloc _) _ _ [_] rfl (src_new w2 _ [_] 1 rfl) (B3.out _ _ _) ?_; intro v3 w3 H3))
          go_roundw
          case rel =>
            rw [dig_eq _ hq0 hq1, dig_eq _ hm0 hm1] at H3
            exact ⟨i + 1, by omega, by go_num, by rw [HX.out]; simpa using H3⟩
          case measure => simp [intOf]; omega
        by_cases e8 : i = 8
        · have q4 : ((i : Int) == 4) = false := by rw [e8]; rfl
          have q6 : ((i : Int) == 6) = false := by rw [e8]; rfl
          have q8 : ((i : Int) == 8) = true := by rw [e8]; rfl
          clear hd e4 e6 e8
          go_wp2_with (first | (at_builtin; refine wpList_own rfl (.tmp 24) (.tmp 25) 29 rfl u3 _ rfl (H.out.alloc _) _ _ [45] rfl (src_new wr _ [45] 1 rfl) (B1.out _) ?_; intro v1 w1 H1; have hcr1 := (H1.grew.cell (p := ⟨w.heap.size, i, none⟩) (by simp) (by simp)).trans HC'.out) | (at_builtin; refine wpList_own rfl (.tmp 27) (.tmp 33) 29 rfl v1 _ rfl (H1.alloc _) _ _ [_] rfl (src_new w1 _ [_] 1 rfl) (B2.out _ _) ?_; intro v2 w2 H2; have hcr2 := (H2.grew.cell (p := ⟨w.heap.size, i, none⟩) (by simp) (by simp)).trans HC'.out) | (at_builtin; refine wpList_own rfl (.tmp 35) (.tmp 41) 29 rfl v2 _ rfl (H2.alloc _) _ _ [_] rfl (src_new w2 _ [_] 1 rfl) (B3.out _ _ _) ?_; intro v3 w3 H3))
          go_roundw
          case rel =>
            rw [dig_eq _ hq0 hq1, dig_eq _ hm0 hm1] at H3
            exact ⟨i + 1, by omega, by go_num, by rw [HX.out]; simpa using H3⟩
          case measure => simp [intOf]; omega
        have e10 : i = 10 := by omega
        have q4 : ((i : Int) == 4) = false := by rw [e10]; rfl
        have q6 : ((i : Int) == 6) = false := by rw [e10]; rfl
        have q8 : ((i : Int) == 8) = false := by rw [e10]; rfl
        have q10 : ((i : Int) == 10) = true := by rw [e10]; rfl
        clear hd e4 e6 e8 e10
        go_wp2_with (first | (at_builtin; refine wpList_own rfl (.tmp 24) (.tmp 25) 29 rfl u3 _ rfl (H.out.alloc _) _ _ [45] rfl (src_new wr _ [45] 1 rfl) (B1.out _) ?_; intro v1 w1 H1; have hcr1 := (H1.grew.cell (p := ⟨w.heap.size, i, none⟩) (by simp) (by simp)).trans HC'.out) | (at_builtin; refine wpList_own rfl (.tmp 27) (.tmp 33) 29 rfl v1 _ rfl (H1.alloc _) _ _ [_] rfl (src_new w1 _ [_] 1 rfl) (B2.out _ _) ?_; intro v2 w2 H2; have hcr2 := (H2.grew.cell (p := ⟨w.heap.size, i, none⟩) (by simp) (by simp)).trans HC'.out) | (at_builtin; refine wpList_own rfl (.tmp 35) (.tmp 41) 29 rfl v2 _ rfl (H2.alloc _) _ _ [_] rfl (src_new w2 _ [_] 1 rfl) (B3.out _ _ _) ?_; intro v3 w3 H3))
        go_roundw
        case rel =>
          rw [dig_eq _ hq0 hq1, dig_eq _ hm0 hm1] at H3
          exact ⟨i + 1, by omega, by go_num, by rw [HX.out]; simpa using H3⟩
        case measure => simp [intOf]; omega
      · have q1 : ((i : Int) == 4) = false := by simp; omega
        have q2 : ((i : Int) == 6) = false := by simp; omega
        have q3 : ((i : Int) == 8) = false := by simp; omega
        have q4 : ((i : Int) == 10) = false := by simp; omega
        rw [if_neg hd, List.nil_append] at HX
        clear hd
        go_wp2_with (first | (at_builtin; refine wpList_own rfl (.tmp 27) (.tmp 33) 29 rfl u3 _ rfl (H.out.alloc _) _ _ [_] rfl (src_new wr _ [_] 1 rfl) (B1.out _) ?_; intro v2 w2 H2; have hcr2 := (H2.grew.cell (p := ⟨w.heap.size, i, none⟩) (by simp) (by simp)).trans HC'.out) | (at_builtin; refine wpList_own rfl (.tmp 35) (.tmp 41) 29 rfl v2 _ rfl (H2.alloc _) _ _ [_] rfl (src_new w2 _ [_] 1 rfl) (B2.out _ _) ?_; intro v3 w3 H3))
        go_roundw
        case rel =>
          rw [dig_eq _ hq0 hq1, dig_eq _ hm0 hm1] at H3
          exact ⟨i + 1, by omega, by go_num, by rw [HX.out]; simpa using H3⟩
        case measure => simp [intOf]; omega
    · have e : i = 16 := by omega
      have hii : ¬ (i : Int) < 16 := by omega
      have hbs : bs (strOf (ren f 16)) = ren f 16 := bs_strOf _ (ren_range f HF.out 16)
      have HB : Hid (Below w.heap.size w wr) := by
        have h1 : Below w.heap.size w (w.alloc (.cells A 23)) := ((Grew.refl w (fun k => w.heap.size ≤ k)).alloc _).below (Nat.le_refl _) (fun k hk h => by omega)
        exact h1.trans (H.out.grew.below (by simp) (fun k hk h => by omega))
      have hcv : (convert 29 9 u3).run Trym.prog wr = .ok (.string (strOf (ren f 16))) wr := conv_row (B := 0) (by rw [hbs]; have := H.out.own; rw [e] at this; exact this)
      clear hbs e
      go_wp2_with fail
      go_ret
      exact ⟨rfl, HB.out⟩
end Go.Proofs.Qxb6602064aMods
