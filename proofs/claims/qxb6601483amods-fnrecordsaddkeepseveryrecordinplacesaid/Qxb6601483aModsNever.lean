/-
  FnRecordsAddNeverMovesFullBlocks (6): what its loops keep ('LL'), and the walk.
-/
import Derived.Test.Qxb6601483aModsRecEq
namespace Go.Proofs.Qxb6601483aMods
open Go.ChangeShapes Go.WideShapes Go.ChangeAt Go.RowKit

/-- The cells of one record: its id's bytes, its CRC, its offset. -/
def cellsOf (q : List Value × Int × Int) : List Value := q.1 ++ [.int .u32 q.2.1, .int .i64 q.2.2]
/-- A record as it is read. -/
def RecOk (q : List Value × Int × Int) : Prop := q.1.length = 20 ∧ ∀ v ∈ q.1, ∃ n, v = .int .u8 n
theorem RecOk.one {q : List Value × Int × Int} (h : RecOk q) : ∀ v ∈ q.1, v.oneCell' = true := fun v hv => by
  obtain ⟨n, rfl⟩ := h.2 v hv; rfl
theorem RecOk.len {q : List Value × Int × Int} (h : RecOk q) : (cellsOf q).length = 22 := by simp [cellsOf, h.1]
theorem RecOk.all {q : List Value × Int × Int} (h : RecOk q) : ∀ v ∈ cellsOf q, v.oneCell' = true := fun v hv => by
  rcases List.mem_append.1 hv with h1 | h1
  · exact h.one v h1
  · simp only [List.mem_cons, List.not_mem_nil, or_false] at h1
    rcases h1 with rfl | rfl <;> rfl

/-- Pointer i of the list leads to record i. -/
def PtrOk (SV : Nat → Value) (PL : List Value) (i : Nat) : Prop := ∃ g, (SV (i / 4096)).ownBlock = some g ∧ PL[i]? = some (.pointer (some ⟨g, i % 4096 * 22, none⟩))

/-- What the loops keep: m records are in; the copy of the records (av) and the list of pointers (pv) are there; pointer i is right wherever tk says that it has been taken. -/
def LL (T : Nat → Prop) (w wr : World) (br : Nat) (R : List (List Value)) (n : Nat) (av pv : Value) (m : Nat) (tk : Nat → Prop) : Prop :=
  ∃ bv SV PL, StN T wr br (R.take m) (nbOf m) bv SV ∧ wr.ownsRow 0 40 22 av n R.flatten ∧ wr.ownsRow 0 46 1 pv n PL ∧ Below w.heap.size w wr ∧ (∀ k, wr.heap.size ≤ k → T k) ∧ ∀ i, i < n → tk i → PtrOk SV PL i

theorem LL.mono {T : Nat → Prop} {w wr : World} {br n m : Nat} {R : List (List Value)} {av pv : Value} {tk tk' : Nat → Prop} (h : LL T w wr br R n av pv m tk) (hk : ∀ i, i < n → tk' i → tk i) : LL T w wr br R n av pv m tk' := by
  obtain ⟨bv, SV, PL, h1, h2, h3, h4, h5, h6⟩ := h
  exact ⟨bv, SV, PL, h1, h2, h3, h4, h5, fun i hi ht => h6 i hi (hk i hi ht)⟩

/-- One record more. -/
theorem LL.add {T : Nat → Prop} {w wr w' : World} {br n m : Nat} {R : List (List Value)} {av pv : Value} {tk : Nat → Prop} {bv' : Value} {SV SV' : Nat → Value} {PL : List Value} (hm : m < R.length)
    (h2 : wr.ownsRow 0 40 22 av n R.flatten) (h3 : wr.ownsRow 0 46 1 pv n PL) (h4 : Below w.heap.size w wr) (h5 : ∀ k, wr.heap.size ≤ k → T k) (h6 : ∀ i, i < n → tk i → PtrOk SV PL i)
    (ha : ∀ k, av.ownBlock = some k → ¬ T k) (hp : ∀ k, pv.ownBlock = some k → ¬ T k) (hTw : ∀ k, k < w.heap.size → ¬ T k)
    (hst : StN T w' br (R.take m ++ [R[m]]) (nbOf ((R.take m).length + 1)) bv' SV') (hg : Grew wr w' T) (hb : ∀ b, b < nbOf (R.take m).length → (1 ≤ b ∨ 4096 ≤ (R.take m).length) → (SV' b).ownBlock = (SV b).ownBlock)
    (htk : ∀ i, i < n → tk i → i < m ∧ (4096 ≤ i ∨ 4096 ≤ m)) : LL T w w' br R n av pv (m + 1) tk := by
  have hl : (R.take m).length = m := by simp; omega
  rw [hl] at hst hb
  refine ⟨bv', SV', PL, ?_, owns_grew h2 hg ha, owns_grew h3 hg hp, h4.trans (hg.below (by have := h4.size; omega) hTw), fun k hk => h5 k (Nat.le_trans hg.size hk), ?_⟩
  · rw [List.take_succ_eq_append_getElem hm]; exact hst
  · intro i hi ht
    obtain ⟨h7, h8⟩ := htk i hi ht
    obtain ⟨g, h9, h10⟩ := h6 i hi ht
    refine ⟨g, ?_, h10⟩
    rw [hb (i / 4096) (by unfold nbOf; omega) (by omega)]
    exact h9

/-- One pointer more. -/
theorem LL.ptr {T : Nat → Prop} {w wr : World} {br n m gp cp : Nat} {R : List (List Value)} {av : Value} {tk : Nat → Prop} {bv : Value} {SV : Nat → Value} {PL : List Value}
    (h1 : StN T wr br (R.take m) (nbOf m) bv SV) (h2 : wr.ownsRow 0 40 22 av n R.flatten) (h3 : wr.ownsRow 0 46 1 (.slice (some ⟨gp, 0, none⟩) n cp) n PL) (h4 : Below w.heap.size w wr) (h5 : ∀ k, wr.heap.size ≤ k → T k) (h6 : ∀ i, i < n → tk i → PtrOk SV PL i)
    (hp : ¬ T gp) (hwp : w.heap.size ≤ gp) (hap : av.ownBlock ≠ some gp) (i g : Nat) (hi : i < n) (hg : (SV (i / 4096)).ownBlock = some g) :
    LL T w (wr.setCell ⟨gp, i, none⟩ (.pointer (some ⟨g, i % 4096 * 22, none⟩))) br R n av (.slice (some ⟨gp, 0, none⟩) n cp) m (fun x => tk x ∨ x = i) := by
  have hgr : Grew wr (wr.setCell ⟨gp, i, none⟩ (.pointer (some ⟨g, i % 4096 * 22, none⟩))) (fun k => k = gp) := (Grew.refl wr (fun k => k = gp)).setCell (p := ⟨gp, i, none⟩) rfl _
  have hPL : PL.length = n := by simpa using h3.1
  refine ⟨bv, SV, PL.set i (.pointer (some ⟨g, i % 4096 * 22, none⟩)), h1.grew hgr (fun e => hp (e ▸ h1.hT)) (fun k hk e => hp (e ▸ h1.bT k hk)) (fun b hb k hk e => hp (e ▸ h1.rT b hb k hk)), owns_grew h2 hgr (fun k hk e => hap (e ▸ hk)), (h3.stored i _).1, h4.setCell hwp _, ?_, ?_⟩
  · intro k hk; exact h5 k (by simpa [World.setCell] using hk)
  · intro x hx ht
    by_cases e : x = i
    · subst e
      exact ⟨g, hg, by rw [List.getElem?_set, if_pos rfl, if_pos (by omega)]⟩
    · obtain ⟨g', h7, h8⟩ := h6 x hx (ht.resolve_right e)
      exact ⟨g', h7, by rw [List.getElem?_set, if_neg (fun e2 => e e2.symm)]; exact h8⟩

/-- At the start: no record, no pointer. -/
theorem ll_start {w w1 w2 : World} {R : List (List Value)} {n cap1 : Nat} {a1 : Option Addr} {PL : List Value} (bel1 : Below w.heap.size w w1) (own1 : w1.ownsRow w.heap.size 40 22 (.slice a1 n cap1) n R.flatten)
    (own2 : w2.ownsRow 0 46 1 (.slice (some ⟨w1.heap.size + 1, 0, none⟩) n n) n PL) (gr2 : (w1.alloc (.cells #[.slice none 0 0, .int .i64 0] 35)).grownBy w2 none) :
    LL (fun k => k = w1.heap.size ∨ w1.heap.size + 2 ≤ k) w w2 w1.heap.size R n (.slice a1 n cap1) (.slice (some ⟨w1.heap.size + 1, 0, none⟩) n n) 0 (fun _ => False) := by
  have hg : Grew w1 w2 (fun _ => False) := (((Grew.refl w1 (fun _ => False)).alloc _).grown gr2 (fun k hk => by cases hk))
  have hlt := (own2.lt (w1.heap.size + 1) rfl).2
  refine ⟨.slice none 0 0, fun _ => .slice none 0 0, PL, ?_, owns_base (owns_grew own1 hg (fun _ _ h => h)) (fun _ _ => Nat.zero_le _), own2, bel1.trans (hg.below bel1.size (fun _ _ h => h)), fun k hk => .inr (by omega), fun i _ h => h.elim⟩
  refine ⟨.inl rfl, ?_, (fun k hk => by simp [Value.ownBlock] at hk), World.ownsRow_nil _ _ _ _, (fun b hb => by simp [nbOf] at hb), (fun b hb => by simp [nbOf] at hb), (fun b b' hb => by simp [nbOf] at hb), (fun b h1 hb => by simp [nbOf] at hb)⟩
  rw [gr2.block w1.heap.size (by simp) (by simp)]
  exact heap_alloc_new w1 _

/-- It stands where new blocks alone are written. -/
theorem LL.keep {T : Nat → Prop} {w wr w' : World} {br n m : Nat} {R : List (List Value)} {av pv : Value} {tk : Nat → Prop} (h : LL T w wr br R n av pv m tk) (hb : Below wr.heap.size wr w') : LL T w w' br R n av pv m tk := by
  obtain ⟨bv, SV, PL, h1, h2, h3, h4, h5, h6⟩ := h
  have hg : Grew wr w' (fun k => wr.heap.size ≤ k) := Grew.of_below hb
  have lt : ∀ {e size v n xs}, wr.ownsRow 0 e size v n xs → ∀ k, v.ownBlock = some k → ¬ wr.heap.size ≤ k := fun h k hk => by have := (h.lt k hk).2; omega
  exact ⟨bv, SV, PL, h1.grew hg (by have := h1.br_lt; omega) (lt h1.bo) (fun b hb => lt (h1.rows b hb)), owns_grew h2 hg (lt h2), owns_grew h3 hg (lt h3), h4.trans (hb.mono h4.size), fun k hk => h5 k (Nat.le_trans hb.size hk), h6⟩

/-- The records' own range, out of the list that was read. -/
theorem q_range {w : World} {ga n cap : Nat} {Q : List (List Value × Int × Int)} {R : List (List Value)} (hR : R = Q.map cellsOf) (hR22 : ∀ r ∈ R, r.length = 22) (h : w.ownsRow 0 40 22 (.slice (some ⟨ga, 0, none⟩) n cap) n R.flatten) (j : Nat) (hj : j < Q.length) : w.rangeAt ga (j * 22) (cellsOf Q[j]) := by
  have h1 := recs_range hR22 h j (by rw [hR]; simpa using hj)
  subst hR
  simpa using h1
theorem q_parts {w : World} {g o : Nat} {q : List Value × Int × Int} (hq : RecOk q) (h : w.rangeAt g o (cellsOf q)) : w.rangeAt g o q.1 ∧ w.cell? ⟨g, o + 20, none⟩ = some (.int .u32 q.2.1) ∧ w.cell? ⟨g, o + 21, none⟩ = some (.int .i64 q.2.2) := by
  refine ⟨fun j v hv => h j v ?_, h 20 _ ?_, h 21 _ ?_⟩
  · unfold cellsOf; rw [List.getElem?_append_left (List.getElem?_eq_some_iff.1 hv).1]; exact hv
  · unfold cellsOf; rw [List.getElem?_append_right (by rw [hq.1]; omega), hq.1]; rfl
  · unfold cellsOf; rw [List.getElem?_append_right (by rw [hq.1]; omega), hq.1]; rfl
theorem range_grew {w w' : World} {S : Nat → Prop} {g o : Nat} {cs : List Value} (h : w.rangeAt g o cs) (hg : Grew w w' S) (hS : ¬ S g) : w'.rangeAt g o cs := fun j v hv => by
  have h1 := h j v hv
  rw [World.cell?_of_block (w := w) (a := ⟨g, o + j, none⟩) (hg.block g (World.block_lt_of_cell? w _ h1) hS)]
  exact h1

theorem below_of_drewN {w w' : World} {n B : Nat} (h : Below B (w.drewN n) w') : Below B w w' := ⟨h.os, h.tape, h.output, h.size, h.block⟩

/-- Record i, where the pointer to it leads. -/
theorem rec_range {T : Nat → Prop} {w : World} {br nb i g : Nat} {R : List (List Value)} {bv : Value} {SV : Nat → Value} (hR : ∀ r ∈ R, r.length = 22) (hst : StN T w br R nb bv SV) (hnb : nb = nbOf R.length) (hi : i < R.length) (hg : (SV (i / 4096)).ownBlock = some g) : w.rangeAt g (i % 4096 * 22) (R[i]'hi) := by
  intro j v hv
  have hrow := hst.rows (i / 4096) (by rw [hnb]; unfold nbOf; omega)
  have hj : j < 22 := by have := (List.getElem?_eq_some_iff.1 hv).1; rw [hR _ (List.getElem_mem hi)] at this; exact this
  obtain ⟨g', cp, hsv⟩ := owns_shape hrow (by unfold lenAt; omega)
  rw [hsv] at hrow hg
  simp only [Value.ownBlock, Option.some.injEq] at hg
  subst hg
  rw [hrow.cellAt (i % 4096 * 22 + j) (by unfold lenAt; omega), part_at R hR i j hi hj]
  exact hv
end Go.Proofs.Qxb6601483aMods
