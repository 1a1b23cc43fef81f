/-
  'records': what lies in memory behind m adds, as one statement on a world ('StN'); and what the steps of (*records).add do to it. No walk here.
-/
import Derived.Test.Qxb6601483aModsOwn
import Derived.Deep.MidRow
namespace Go.Proofs.Qxb6601483aMods
open Go.RowKit

/-- How many blocks hold m records. -/
def nbOf (m : Nat) : Nat := (m + 4095) / 4096
/-- How many of m records lie in block b. -/
def lenAt (m b : Nat) : Nat := min 4096 (m - 4096 * b)
/-- The cells of block b. -/
def part (R : List (List Value)) (b : Nat) : List Value := ((R.drop (4096 * b)).take 4096).flatten

theorem part_last (R : List (List Value)) (cs : List Value) (b : Nat) (h1 : 4096 * b ≤ R.length) (h2 : R.length < 4096 * b + 4096) : part (R ++ [cs]) b = part R b ++ cs := by
  unfold part
  rw [List.drop_append_of_le_length h1, List.take_of_length_le (by simp; omega), List.take_of_length_le (by simp; omega)]
  simp
theorem part_full (R : List (List Value)) (cs : List Value) (b : Nat) (h : 4096 * b + 4096 ≤ R.length) : part (R ++ [cs]) b = part R b := by
  unfold part
  rw [List.drop_append_of_le_length (by omega), List.take_append_of_le_length (by simp; omega)]
theorem part_none (R : List (List Value)) (b : Nat) (h : R.length ≤ 4096 * b) : part R b = [] := by
  unfold part
  rw [List.drop_of_length_le h]; simp

theorem flat_at : ∀ (L : List (List Value)) (_ : ∀ r ∈ L, r.length = 22) (a j : Nat), j < 22 → (L.flatten)[a * 22 + j]? = L[a]?.bind (·[j]?)
  | [], _, a, j, _ => by simp
  | r :: L, hL, a, j, hj => by
    have hr : r.length = 22 := hL r (by simp)
    match a with
    | 0 => rw [List.flatten_cons, List.getElem?_append_left (by omega)]; simp
    | a + 1 =>
      rw [List.flatten_cons, List.getElem?_append_right (by omega)]
      have e : (a + 1) * 22 + j - r.length = a * 22 + j := by omega
      rw [e, flat_at L (fun x hx => hL x (by simp [hx])) a j hj]
      simp
theorem flat_len : ∀ (L : List (List Value)) (_ : ∀ r ∈ L, r.length = 22), (L.flatten).length = L.length * 22
  | [], _ => by simp
  | r :: L, hL => by
    have hr : r.length = 22 := hL r (by simp)
    rw [List.flatten_cons, List.length_append, flat_len L (fun x hx => hL x (by simp [hx])), hr, List.length_cons]; omega
/-- Record i, where it lies. -/
theorem part_at (R : List (List Value)) (hR : ∀ r ∈ R, r.length = 22) (i j : Nat) (hi : i < R.length) (hj : j < 22) : (part R (i / 4096))[i % 4096 * 22 + j]? = (R[i])[j]? := by
  unfold part
  rw [flat_at _ (fun r hr => hR r (List.mem_of_mem_drop (List.mem_of_mem_take hr))) _ _ hj]
  rw [List.getElem?_take, if_pos (by omega), List.getElem?_drop, show 4096 * (i / 4096) + i % 4096 = i by omega, List.getElem?_eq_getElem hi]
  rfl

theorem owns_block {w : World} {base : Nat} {e : TypeId} {size : Nat} {v : Value} {n : Nat} {xs : List Value} (h : w.ownsRow base e size v n xs) {g : Nat} (hg : v.ownBlock = some g) : ∃ cur, w.heap[g]? = some (.cells cur e (0, 0)) := by
  rcases h.2 with ⟨rfl, _⟩ | ⟨g', cap, cur, rfl, _, hh, _⟩
  · simp [Value.ownBlock] at hg
  · simp only [Value.ownBlock, Option.some.injEq] at hg
    subst hg
    exact ⟨cur, hh⟩

/-- WHAT LIES IN MEMORY: the struct at block br holds the slice bv of nb block slices SV and the count; block b holds its records' cells; no two lie in one place; each but the first was allocated whole. T: the blocks that belong to it. -/
structure StN (T : Nat → Prop) (w : World) (br : Nat) (R : List (List Value)) (nb : Nat) (bv : Value) (SV : Nat → Value) : Prop where
  hT : T br
  rb : w.heap[br]? = some (.cells #[bv, .int .i64 R.length] 35 (0, 0))
  bT : ∀ k, bv.ownBlock = some k → T k
  bo : w.ownsRow 0 53 1 bv nb ((List.range nb).map SV)
  rows : ∀ b, b < nb → w.ownsRow 0 52 22 (SV b) (lenAt R.length b) (part R b)
  rT : ∀ b, b < nb → ∀ g, (SV b).ownBlock = some g → T g
  dis : ∀ b b', b < nb → b' < nb → ∀ g, (SV b).ownBlock = some g → (SV b').ownBlock = some g → b = b'
  caps : ∀ b, 1 ≤ b → b < nb → ∃ g, SV b = .slice (some ⟨g, 0, none⟩) (lenAt R.length b) 4096

theorem StN.b_ne_r {T : Nat → Prop} {w : World} {br : Nat} {R : List (List Value)} {nb : Nat} {bv : Value} {SV : Nat → Value} (h : StN T w br R nb bv SV) {k : Nat} (hk : bv.ownBlock = some k) : k ≠ br := by
  rintro rfl
  obtain ⟨cur, hc⟩ := owns_block h.bo hk
  rw [h.rb] at hc
  simp at hc
theorem StN.row_ne_r {T : Nat → Prop} {w : World} {br : Nat} {R : List (List Value)} {nb : Nat} {bv : Value} {SV : Nat → Value} (h : StN T w br R nb bv SV) {b k : Nat} (hb : b < nb) (hk : (SV b).ownBlock = some k) : k ≠ br := by
  rintro rfl
  obtain ⟨cur, hc⟩ := owns_block (h.rows b hb) hk
  rw [h.rb] at hc
  simp at hc
theorem StN.row_ne_b {T : Nat → Prop} {w : World} {br : Nat} {R : List (List Value)} {nb : Nat} {bv : Value} {SV : Nat → Value} (h : StN T w br R nb bv SV) {b k : Nat} (hb : b < nb) (hk : (SV b).ownBlock = some k) : bv.ownBlock ≠ some k := by
  intro hk2
  obtain ⟨cur, hc⟩ := owns_block (h.rows b hb) hk
  obtain ⟨cur2, hc2⟩ := owns_block h.bo hk2
  rw [hc] at hc2
  simp at hc2
theorem StN.br_lt {T : Nat → Prop} {w : World} {br : Nat} {R : List (List Value)} {nb : Nat} {bv : Value} {SV : Nat → Value} (h : StN T w br R nb bv SV) : br < w.heap.size :=
  (Array.getElem?_eq_some_iff.1 h.rb).1

/-- It stands where none of its blocks has turned. -/
theorem StN.grew {T : Nat → Prop} {w w' : World} {br : Nat} {R : List (List Value)} {nb : Nat} {bv : Value} {SV : Nat → Value} {S : Nat → Prop} (h : StN T w br R nb bv SV) (hg : Grew w w' S)
    (h1 : ¬ S br) (h2 : ∀ k, bv.ownBlock = some k → ¬ S k) (h3 : ∀ b, b < nb → ∀ k, (SV b).ownBlock = some k → ¬ S k) : StN T w' br R nb bv SV where
  hT := h.hT
  rb := by rw [hg.block br h.br_lt h1]; exact h.rb
  bT := h.bT
  bo := owns_grew h.bo hg h2
  rows := fun b hb => owns_grew (h.rows b hb) hg (h3 b hb)
  rT := h.rT
  dis := h.dis
  caps := h.caps

/-- The two cells of the struct. -/
theorem StN.cell0 {T : Nat → Prop} {w : World} {br : Nat} {R : List (List Value)} {nb : Nat} {bv : Value} {SV : Nat → Value} (h : StN T w br R nb bv SV) : w.cell? ⟨br, 0, none⟩ = some bv ∧ w.frozen? ⟨br, 0, none⟩ = false := by
  refine ⟨?_, frozen_of_row w br 0 _ 35 h.rb⟩
  rw [cell_of_row w br 0 _ 35 (0, 0) h.rb]; rfl
theorem StN.cell1 {T : Nat → Prop} {w : World} {br : Nat} {R : List (List Value)} {nb : Nat} {bv : Value} {SV : Nat → Value} (h : StN T w br R nb bv SV) : w.cell? ⟨br, 1, none⟩ = some (.int .i64 R.length) ∧ w.frozen? ⟨br, 1, none⟩ = false := by
  refine ⟨?_, frozen_of_row w br 1 _ 35 h.rb⟩
  rw [cell_of_row w br 1 _ 35 (0, 0) h.rb]; rfl
/-- The slice of blocks is no nil where there is a block; its cells. -/
theorem StN.shape {T : Nat → Prop} {w : World} {br : Nat} {R : List (List Value)} {nb : Nat} {bv : Value} {SV : Nat → Value} (h : StN T w br R nb bv SV) (hn : 0 < nb) :
    ∃ gb capb, bv = .slice (some ⟨gb, 0, none⟩) nb capb ∧ gb < w.heap.size ∧ T gb ∧ ∀ b, b < nb → w.cell? ⟨gb, b, none⟩ = some (SV b) ∧ w.frozen? ⟨gb, b, none⟩ = false := by
  have hbo := h.bo
  have hbT := h.bT
  rcases h.bo.2 with ⟨_, h0⟩ | ⟨g, cap, cur, rfl, _, hh, _⟩
  · omega
  · refine ⟨g, cap, rfl, (Array.getElem?_eq_some_iff.1 hh).1, hbT g rfl, fun b hb => ⟨?_, hbo.frozenAt b⟩⟩
    rw [hbo.cellAt b (by omega)]
    simp [hb]

/-! ### The law of append, with all that is known of the new value -/
section
variable {P : Program} (w : World)

theorem append_fits (base : Nat) (t ty e : TypeId) (i : TypeInfo) (size : Nat) (ht : P.underlying t = some (.slice e)) (hi : P.info? e = some i) (hsize : i.size = size)
    (v : Value) (n : Nat) (xs : List Value) (hown : w.ownsRow base e size v n xs)
    (a : Addr) (m c : Nat) (news : List Value) (hl : news.length = m * size) (hnews : ∀ j u, news[j]? = some u → w.cell? (a.add j) = some u) (h1 : ∀ u ∈ news, u.oneCell' = true) {v' : Value} {w' : World}
    (hr : (Builtin.append_ #[t, t] ty #[v, .slice (some a) m c]).run P w = .ok v' w') : ∀ g cap, v = .slice (some ⟨g, 0, none⟩) n cap → n + m ≤ cap → v' = .slice (some ⟨g, 0, none⟩) (n + m) cap := by
  rintro g cap rfl hroom
  obtain ⟨w2, r1, _⟩ := run_append_fits (P := P) w base t ty e i size ht hi hsize g n cap xs hown a m c news hl hnews h1 hroom
  rw [hr] at r1
  cases r1
  rfl

theorem wp_append_all {o : Oper} {a : Act} {K : Act → World → Prop} {Q : Exit → Act → World → Prop} (s x : Operand) (t : TypeId)
    (ho : o.op = .call { callee := .builtin .append, args := #[s, x], argTypes := #[t, t] })
    (base : Nat) (e : TypeId) (i : TypeInfo) (z : Value) (size bytes : Nat) (ht : P.underlying t = some (.slice e)) (hi : P.info? e = some i) (hz : i.zero = some z)
    (hsize : i.size = size) (hby : i.bytes = bytes) (hzs : z.cells.size = size) (hsz : 0 < size)
    (v : Value) (n : Nat) (xs : List Value) (hs : a.eval s = v) (hown : w.ownsRow base e size v n xs)
    (ad : Addr) (m c : Nat) (news : List Value) (hx : a.eval x = .slice (some ad) m c) (hl : news.length = m * size) (hnews : ∀ j u, news[j]? = some u → w.cell? (ad.add j) = some u) (h1 : ∀ u ∈ news, u.oneCell' = true)
    (h63 : n + m ≤ maxLen) (hbytes : (n + m) * bytes ≤ 140737488355328) (hbase : base ≤ w.heap.size)
    (h : ∀ v' w', w'.ownsRow base e size v' (n + m) (xs ++ news) → w.grownBy w' v.ownBlock → (∀ g, v'.ownBlock = some g → v.ownBlock = some g ∨ w.heap.size ≤ g) →
      (∀ g cap, v = .slice (some ⟨g, 0, none⟩) n cap → n + m ≤ cap → v' = .slice (some ⟨g, 0, none⟩) (n + m) cap) → K (a.put o.dst v') w') : o.wp P a w K Q := by
  obtain ⟨v', w', hr, h2, h3, h4⟩ := run_append_own (P := P) w base t o.type e i z size bytes ht hi hz hsize hby hzs hsz v n xs hown ad m c news hl hnews h1 h63 hbytes hbase
  have h5 := append_block (P := P) w base t o.type e i z size bytes ht hi hz hsize hby hzs hsz v n xs hown ad m c news hl hnews h1 h63 hbytes hr
  have h6 := append_fits (P := P) w base t o.type e i size ht hi hsize v n xs hown ad m c news hl hnews h1 hr
  unfold Oper.wp execOp
  simp only [ho, resolve, invoke, builtin, Sem.run_bind, Sem.run_pure, Result.andThen_ok, List.map_toArray, List.map_cons, List.map_nil, hs, hx, hr]
  exact h v' w' h2 h3 h5 h6
end

theorem heap_setCell_self (w : World) (g j : Nat) (cur : Array Value) (e : TypeId) (u : Value) (hg : w.heap[g]? = some (.cells cur e (0, 0))) : (w.setCell ⟨g, j, none⟩ u).heap[g]? = some (.cells (cur.setIfInBounds j u) e (0, 0)) :=
  heap_setCell_same w g j cur e u hg

/-! ### The steps of add -/
/-- One block slice more (nil, or made whole), stored into the struct. -/
theorem StN.push {T : Nat → Prop} {w w1 : World} {br : Nat} {R : List (List Value)} {nb : Nat} {bv v1 sv : Value} {SV : Nat → Value} (h : StN T w br R nb bv SV) (hm : R.length = 4096 * nb)
    (hsv : w.ownsRow 0 52 22 sv 0 []) (hsT : ∀ g, sv.ownBlock = some g → T g ∧ (∀ b, b < nb → (SV b).ownBlock ≠ some g))
    (hcap : 1 ≤ nb → ∃ g, sv = .slice (some ⟨g, 0, none⟩) 0 4096)
    (hnew : ∀ k, w.heap.size ≤ k → T k)
    (own1 : w1.ownsRow 0 53 1 v1 (nb + 1) ((List.range nb).map SV ++ [sv])) (hgr : w.grownBy w1 bv.ownBlock) (hblk : ∀ g, v1.ownBlock = some g → bv.ownBlock = some g ∨ w.heap.size ≤ g) :
    StN T (w1.setCell ⟨br, 0, none⟩ v1) br R (nb + 1) v1 (fun b => if b = nb then sv else SV b) := by
  have hbr := h.br_lt
  have hg1 : Grew w w1 (fun k => bv.ownBlock = some k) := (Grew.refl w _).grown hgr (fun k hk => hk)
  have hg2 : Grew w (w1.setCell ⟨br, 0, none⟩ v1) (fun k => bv.ownBlock = some k ∨ k = br) := (hg1.mono (fun k _ hk => .inl hk)).setCell (.inr rfl) _
  have hrow : ∀ b, b < nb → (w1.setCell ⟨br, 0, none⟩ v1).ownsRow 0 52 22 (SV b) (lenAt R.length b) (part R b) := fun b hb =>
    owns_grew (h.rows b hb) hg2 (fun k hk hS => hS.elim (fun e => h.row_ne_b hb hk e) (fun e => h.row_ne_r hb hk e))
  have hsv2 : (w1.setCell ⟨br, 0, none⟩ v1).ownsRow 0 52 22 sv 0 [] := owns_grew hsv hg2 (fun k hk hS => by
    obtain ⟨cur, hc⟩ := owns_block hsv hk
    rcases hS with e | e
    · obtain ⟨cur2, hc2⟩ := owns_block h.bo e
      rw [hc] at hc2; simp at hc2
    · subst e; rw [h.rb] at hc; simp at hc)
  have hrb1 : w1.heap[br]? = some (.cells #[bv, .int .i64 R.length] 35 (0, 0)) := by
    rw [hgr.block br hbr (fun e => h.b_ne_r e.symm rfl)]; exact h.rb
  refine ⟨h.hT, ?_, ?_, ?_, ?_, ?_, ?_, ?_⟩
  · rw [heap_setCell_self w1 br 0 _ 35 v1 hrb1]; rfl
  · intro k hk
    rcases hblk k hk with e | e
    · exact h.bT k e
    · exact hnew k e
  · have e : (List.range (nb + 1)).map (fun b => if b = nb then sv else SV b) = (List.range nb).map SV ++ [sv] := by
      rw [List.range_succ, List.map_append]
      congr 1
      · exact List.map_congr_left (fun b hb => by rw [if_neg (by have := List.mem_range.1 hb; omega)])
      · simp
    rw [e]
    refine owns_grew own1 ((Grew.refl w1 (fun k => k = br)).setCell rfl _) (fun k hk hS => ?_)
    subst hS
    obtain ⟨cur, hc⟩ := owns_block own1 hk
    rw [hrb1] at hc
    simp at hc
  · intro b hb
    by_cases e : b = nb
    · subst e
      simp only [if_true]
      rw [show lenAt R.length b = 0 by unfold lenAt; omega, part_none R b (by omega)]
      exact hsv2
    · simp only [if_neg e]
      exact hrow b (by omega)
  · intro b hb g hg
    by_cases e : b = nb
    · subst e; simp only [if_true] at hg; exact (hsT g hg).1
    · simp only [if_neg e] at hg; exact h.rT b (by omega) g hg
  · intro b b' hb hb' g hg hg'
    by_cases e : b = nb
    · by_cases e' : b' = nb
      · omega
      · subst e; simp only [if_true] at hg; simp only [if_neg e'] at hg'
        exact absurd hg' ((hsT g hg).2 b' (by omega))
    · by_cases e' : b' = nb
      · subst e'; simp only [if_true] at hg'; simp only [if_neg e] at hg
        exact absurd hg ((hsT g hg').2 b (by omega))
      · simp only [if_neg e] at hg; simp only [if_neg e'] at hg'
        exact h.dis b b' (by omega) (by omega) g hg hg'
  · intro b h1 hb
    by_cases e : b = nb
    · subst e
      simp only [if_true]
      rw [show lenAt R.length b = 0 by unfold lenAt; omega]
      exact hcap h1
    · simp only [if_neg e]; exact h.caps b h1 (by omega)

/-- One record more in the last block. -/
theorem StN.add {T : Nat → Prop} {w w1 : World} {br : Nat} {R : List (List Value)} {k gb capb : Nat} {v' : Value} {SV : Nat → Value} {cs : List Value} (h : StN T w br R (k + 1) (.slice (some ⟨gb, 0, none⟩) (k + 1) capb) SV) (hk : k = R.length / 4096)
    (hnew : ∀ k, w.heap.size ≤ k → T k)
    (own1 : w1.ownsRow 0 52 22 v' (lenAt R.length k + 1) (part R k ++ cs)) (hgr : w.grownBy w1 (SV k).ownBlock) (hblk : ∀ g, v'.ownBlock = some g → (SV k).ownBlock = some g ∨ w.heap.size ≤ g)
    (hfit : ∀ g cap, SV k = .slice (some ⟨g, 0, none⟩) (lenAt R.length k) cap → lenAt R.length k + 1 ≤ cap → v' = .slice (some ⟨g, 0, none⟩) (lenAt R.length k + 1) cap) :
    StN T ((w1.setCell ⟨gb, k, none⟩ v').setCell ⟨br, 1, none⟩ (.int .i64 ((R.length : Int) + 1))) br (R ++ [cs]) (k + 1) (.slice (some ⟨gb, 0, none⟩) (k + 1) capb) (fun b => if b = k then v' else SV b) := by
  have hbr := h.br_lt
  have hgb : gb ≠ br := h.b_ne_r rfl
  have hbo := h.bo
  obtain ⟨curb, hcb⟩ := owns_block h.bo (g := gb) rfl
  have hgbl : gb < w.heap.size := (Array.getElem?_eq_some_iff.1 hcb).1
  have hgk : ∀ g, (SV k).ownBlock = some g → g ≠ gb ∧ g ≠ br := fun g hg => ⟨fun e => by subst e; exact h.row_ne_b (by omega) hg rfl, h.row_ne_r (by omega) hg⟩
  have hg1 : Grew w w1 (fun x => (SV k).ownBlock = some x) := (Grew.refl w _).grown hgr (fun x hx => hx)
  have hg2 : Grew w ((w1.setCell ⟨gb, k, none⟩ v').setCell ⟨br, 1, none⟩ (.int .i64 ((R.length : Int) + 1))) (fun x => (SV k).ownBlock = some x ∨ x = gb ∨ x = br) :=
    ((hg1.mono (fun x _ hx => .inl hx)).setCell (.inr (.inl rfl)) _).setCell (.inr (.inr rfl)) _
  have hrb1 : w1.heap[br]? = some (.cells #[.slice (some ⟨gb, 0, none⟩) (k + 1) capb, .int .i64 R.length] 35 (0, 0)) := by
    rw [hg1.block br hbr (fun e => (hgk br e).2 rfl)]; exact h.rb
  have hbo1 : w1.ownsRow 0 53 1 (.slice (some ⟨gb, 0, none⟩) (k + 1) capb) (k + 1) ((List.range (k + 1)).map SV) := owns_grew h.bo hg1 (fun x hx hS => by
    simp only [Value.ownBlock, Option.some.injEq] at hx
    subst hx
    exact (hgk gb hS).1 rfl)
  have hl : (R ++ [cs]).length = R.length + 1 := by simp
  have hlk : lenAt (R.length + 1) k = lenAt R.length k + 1 := by unfold lenAt; omega
  have hlo : ∀ b, b < k → lenAt (R.length + 1) b = lenAt R.length b := fun b hb => by unfold lenAt; omega
  have hv'ne : ∀ x, v'.ownBlock = some x → x ≠ gb ∧ x ≠ br := fun x hx => by
    rcases hblk x hx with e | e
    · exact hgk x e
    · exact ⟨by omega, by omega⟩
  refine ⟨h.hT, ?_, h.bT, ?_, ?_, ?_, ?_, ?_⟩
  · rw [heap_setCell_self _ br 1 #[.slice (some ⟨gb, 0, none⟩) (k + 1) capb, .int .i64 R.length] 35 _ (by rw [Below.heap_setCell _ _ _ _ (by simpa using hgb.symm)]; exact hrb1), hl]
    simp
  · have e1 := (hbo1.stored k v').1
    have e : (List.range (k + 1)).map (fun b => if b = k then v' else SV b) = ((List.range (k + 1)).map SV).set k v' := by
      apply List.ext_getElem?
      intro j
      rw [List.getElem?_set]
      by_cases hj : k = j
      · subst hj; simp
      · rw [if_neg hj]
        by_cases hj2 : j < k + 1
        · simp [hj2, show ¬ j = k by omega]
        · simp [hj2]
    rw [e]
    exact owns_grew e1 ((Grew.refl _ (fun x => x = br)).setCell rfl _) (fun x hx hS => by
      simp only [Value.ownBlock, Option.some.injEq] at hx
      omega)
  · intro b hb
    rw [hl]
    by_cases e : b = k
    · subst e
      simp only [if_true]
      rw [hlk, part_last R cs b (by omega) (by omega)]
      exact owns_grew own1 (((Grew.refl w1 (fun x => x = gb ∨ x = br)).setCell (.inl rfl) _).setCell (.inr rfl) _) (fun x hx hS => hS.elim (hv'ne x hx).1 (hv'ne x hx).2)
    · simp only [if_neg e]
      rw [hlo b (by omega), part_full R cs b (by omega)]
      refine owns_grew (h.rows b hb) hg2 (fun x hx hS => ?_)
      rcases hS with e1 | e1 | e1
      · exact e (h.dis b k hb (by omega) x hx e1)
      · subst e1; exact h.row_ne_b hb hx rfl
      · exact h.row_ne_r hb hx e1
  · intro b hb g hg
    by_cases e : b = k
    · subst e
      simp only [if_true] at hg
      rcases hblk g hg with e1 | e1
      · exact h.rT b hb g e1
      · exact hnew g e1
    · simp only [if_neg e] at hg; exact h.rT b hb g hg
  · have lem : ∀ b, b < k + 1 → b ≠ k → ∀ g, (SV b).ownBlock = some g → v'.ownBlock = some g → False := by
      intro b hb hne g hg hg'
      rcases hblk g hg' with e1 | e1
      · exact hne (h.dis b k hb (by omega) g hg e1)
      · obtain ⟨cur, hc⟩ := owns_block (h.rows b hb) hg
        have := (Array.getElem?_eq_some_iff.1 hc).1
        omega
    intro b b' hb hb' g hg hg'
    by_cases e : b = k
    · by_cases e' : b' = k
      · omega
      · simp only [if_pos e] at hg; simp only [if_neg e'] at hg'
        exact (lem b' hb' e' g hg' hg).elim
    · by_cases e' : b' = k
      · simp only [if_neg e] at hg; simp only [if_pos e'] at hg'
        exact (lem b hb e g hg hg').elim
      · simp only [if_neg e] at hg; simp only [if_neg e'] at hg'
        exact h.dis b b' hb hb' g hg hg'
  · intro b h1 hb
    rw [hl]
    by_cases e : b = k
    · subst e
      simp only [if_true]
      rw [hlk]
      obtain ⟨g, hg⟩ := h.caps b h1 hb
      exact ⟨g, hfit g 4096 hg (by unfold lenAt; omega)⟩
    · simp only [if_neg e]
      rw [hlo b (by omega)]
      exact h.caps b h1 hb
end Go.Proofs.Qxb6601483aMods
