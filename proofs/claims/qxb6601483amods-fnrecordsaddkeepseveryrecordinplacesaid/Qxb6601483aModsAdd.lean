/-
  (*records).add (23): the walk. Region 6 of its text (a make, an append) and region 8 (loads, an append, a store) draw their order: the first by 'go_region_law', the second by hand over the moves of Derived.OrdersHeld.
-/
import Derived.Test.Qxb6601483aModsLeaf
import Derived.Test.Qxb6601483aModsRec
import Derived.Test.Qxb6601483aModsHeld
import Derived.Deep.DeepCutAuto
import Derived.Deep.CutBlock
import Derived.RegionTactic
import Derived.Deep.RegionLaw
import Derived.Deep.DrawnRows
namespace Go.Proofs.Qxb6601483aMods
open Go.ChangeShapes Go.WideShapes Go.ChangeAt Go.RowKit

theorem Trym.info53 : (Trym.prog.info? 53).map (fun i => (i.zero, i.size, i.bytes)) = some (some (.slice none 0 0), 1, 24) := by kernel_rfl
def zero52 : Value := .agg #[.int .u8 0, .int .u8 0, .int .u8 0, .int .u8 0, .int .u8 0, .int .u8 0, .int .u8 0, .int .u8 0, .int .u8 0, .int .u8 0, .int .u8 0, .int .u8 0, .int .u8 0, .int .u8 0, .int .u8 0, .int .u8 0, .int .u8 0, .int .u8 0, .int .u8 0, .int .u8 0, .int .u32 0, .int .i64 0]
theorem Trym.info52 : (Trym.prog.info? 52).map (fun i => (i.zero, i.size, i.bytes)) = some (some zero52, 22, 32) := by kernel_rfl
theorem zero52_size : zero52.cells.size = 22 := by kernel_rfl
theorem size52 : (Trym.prog.info? 52).map (·.size) = some 22 := by kernel_rfl

/-- The slice that the one new cell is appended from. -/
theorem news_block {w : World} {x : Value} {t : TypeId} : ∀ j u, [x][j]? = some u → (w.alloc (.cells #[x] t)).cell? ((⟨w.heap.size, 0, none⟩ : Addr).add j) = some u := cell_one_new w x t

theorem owns_shape {w : World} {B e size n : Nat} {v : Value} {xs : List Value} (h : w.ownsRow B e size v n xs) (hn : 0 < n) : ∃ g cap, v = .slice (some ⟨g, 0, none⟩) n cap := by
  rcases h.2 with ⟨_, h0⟩ | ⟨g, cap, cur, rfl, _⟩
  · omega
  · exact ⟨g, cap, rfl⟩
theorem grown_cell {w w' : World} {row : Option Nat} (h : w.grownBy w' row) {a : Addr} {v : Value} (hc : w.cell? a = some v) (hr : row ≠ some a.block) : w'.cell? a = some v := h.cell hc (Ne.symm hr)
theorem grown_frozen {w w' : World} {row : Option Nat} (h : w.grownBy w' row) {a : Addr} {v : Value} (hc : w.cell? a = some v) (hr : row ≠ some a.block) : w'.frozen? a = w.frozen? a :=
  World.frozen?_of_block (h.block a.block (World.block_lt_of_cell? w a hc) (Ne.symm hr))

/-- What make lays for a whole block: so many cells, whatever they hold. -/
theorem run_make53 : ∃ bc : Array Value, bc.size = 4096 * 22 ∧ ∀ w, (Instr.makeSlice 53 (.int .i64 0) (.int .i64 4096)).run Trym.prog w = .ok (.slice (some ⟨w.heap.size, 0, none⟩) 0 4096) (w.alloc (.cells bc 52)) := by
  obtain ⟨i0, hi, hz0, hz1, hz2⟩ := info_parts Trym.info52
  refine ⟨madeCells zero52.cells (4096 * 22), size_madeCells _ _, fun w => ?_⟩
  have h := run_make (P := Trym.prog) w 53 52 i0 zero52 Trym.underlying53 hi hz0 .i64 .i64 0 4096 (by omega) (by omega) (by rw [hz2]; omega) (by omega)
  rw [hz1] at h
  exact h

theorem step_append_all {P : Program} (w : World) {ops : Array Oper} {o : Oper} {a : Act} {K : Act → World → Prop} {Q : Exit → Act → World → Prop} {E : Prop} (hgd : o.guard = none) (s x : Operand) (t : TypeId)
    (ho : o.op = .call { callee := .builtin .append, args := #[s, x], argTypes := #[t, t] })
    (base : Nat) (e : TypeId) (i : TypeInfo) (z : Value) (size bytes : Nat) (ht : P.underlying t = some (.slice e)) (hi : P.info? e = some i) (hz : i.zero = some z)
    (hsize : i.size = size) (hby : i.bytes = bytes) (hzs : z.cells.size = size) (hsz : 0 < size)
    (v : Value) (n : Nat) (xs : List Value) (hs : a.eval s = v) (hown : w.ownsRow base e size v n xs)
    (ad : Addr) (m c : Nat) (news : List Value) (hx : a.eval x = .slice (some ad) m c) (hl : news.length = m * size) (hnews : ∀ j u, news[j]? = some u → w.cell? (ad.add j) = some u) (h1 : ∀ u ∈ news, u.oneCell' = true)
    (h63 : n + m ≤ maxLen) (hbytes : (n + m) * bytes ≤ 140737488355328) (hbase : base ≤ w.heap.size)
    (h : ∀ v' w', w'.ownsRow base e size v' (n + m) (xs ++ news) → w.grownBy w' v.ownBlock → (∀ g, v'.ownBlock = some g → v.ownBlock = some g ∨ w.heap.size ≤ g) →
      (∀ g cap, v = .slice (some ⟨g, 0, none⟩) n cap → n + m ≤ cap → v' = .slice (some ⟨g, 0, none⟩) (n + m) cap) → K (a.put o.dst v') w') :
    if Region.wanted o (yielded ops a.tmps) = true then Oper.wp P o a w K Q else E := by
  have hw : Region.wanted o (yielded ops a.tmps) = true := by simp [Region.wanted, hgd]
  rw [if_pos hw]
  exact wp_append_all w s x t ho base e i z size bytes ht hi hz hsize hby hzs hsz v n xs hs hown ad m c news hx hl hnews h1 h63 hbytes hbase h

def Pre (T : Nat → Prop) (w wx : World) (br bx k : Nat) (R : List (List Value)) (cs : List Value) (SV0 : Nat → Value) : Prop :=
  ∃ gb capb SV, StN T wx br R (k + 1) (.slice (some ⟨gb, 0, none⟩) (k + 1) capb) SV ∧ wx.heap[bx]? = some (.cells cs.toArray 52 (0, 0)) ∧ Grew w wx T ∧ (∀ b, b < nbOf R.length → SV b = SV0 b) ∧ (∀ b, b < k + 1 → (SV b).ownBlock ≠ some bx)

theorem fold_aux : ∀ (cs A B : List Value), cs.length ≤ B.length → List.foldl (fun (c : Array Value) (x : Value × Nat) => c.setIfInBounds x.2 x.1) (A ++ B).toArray (cs.zipIdx A.length) = (A ++ cs ++ B.drop cs.length).toArray
  | [], A, B, _ => by simp
  | c :: cs, A, b :: B, h => by
    have ih := fold_aux cs (A ++ [c]) B (by simpa using h)
    rw [List.zipIdx_cons, List.foldl_cons]
    have e : (A ++ b :: B).toArray.setIfInBounds A.length c = ((A ++ [c]) ++ B).toArray := by
      simp
    rw [e]
    simpa using ih
theorem fold_set (Z : Array Value) (cs : List Value) (h : cs.length = Z.size) : List.foldl (fun (c : Array Value) (x : Value × Nat) => c.setIfInBounds x.2 x.1) Z cs.zipIdx = cs.toArray := by
  have e := fold_aux cs [] Z.toList (by simp [h])
  simp only [List.nil_append, List.length_nil] at e
  have e2 : Z.toList.drop cs.length = [] := List.drop_of_length_le (by simp [h])
  rw [e2] at e
  simpa using e

theorem range_of_block {w : World} {b : Nat} {cs : List Value} {t : TypeId} {fr : Nat × Nat} (h : w.heap[b]? = some (.cells cs.toArray t fr)) : w.rangeAt b 0 cs := fun j v hv => by
  rw [cell_of_row w b (0 + j) _ t fr h]; simpa using hv
theorem news_new {w : World} {cs : List Value} {t : TypeId} : ∀ j u, cs[j]? = some u → ((w.alloc (.cells cs.toArray t)).drew).cell? ((⟨w.heap.size, 0, none⟩ : Addr).add j) = some u := fun j u hu => by
  show (w.alloc (.cells cs.toArray t)).cell? _ = _
  rw [add_plain, cell_of_row _ w.heap.size (0 + j) _ t (0, 0) (heap_alloc_new w _)]; simpa using hu

theorem cell_ad {w : World} {a : Addr} {v : Value} (h : w.cell? a = some v) (o : Obj) : ((w.alloc o).drew).cell? a = some v := by
  show (w.alloc o).cell? a = _
  rw [World.cell?_alloc_lt _ _ _ (World.block_lt_of_cell? w a h)]; exact h
theorem frozen_ad {w : World} {a : Addr} {v : Value} (h : w.cell? a = some v) (o : Obj) : ((w.alloc o).drew).frozen? a = w.frozen? a := by
  show (w.alloc o).frozen? a = _
  exact World.frozen?_alloc_past _ _ _ (World.block_lt_of_cell? w a h)
/-- A cell that stands behind an alloc, a draw and an append to another row. -/
theorem cell_later3 {w w1 : World} {o : Obj} {row : Option Nat} {a : Addr} {v : Value} (h : w.cell? a = some v) (hf : w.frozen? a = false) (hg : ((w.alloc o).drew).grownBy w1 row) (hr : row ≠ some a.block) : w1.cell? a = some v ∧ w1.frozen? a = false :=
  ⟨grown_cell hg (cell_ad h o) hr, by rw [grown_frozen hg (cell_ad h o) hr, frozen_ad h o]; exact hf⟩

/-- The load of a whole record from the head of a block, in a region that draws its order. -/
theorem load52 {ops : Array Oper} {S : World → Prop} {op : Oper} {a : Act} {b : Nat} {cs : List Value} (hcs : cs.length = 22) (x : Operand) (ho : op.op = .load 52 x) (hS : ∀ w, S w → w.rangeAt b 0 cs) (hw : Region.wanted op (yielded ops a.tmps) = true)
    (hx : a.eval x = .pointer (some ⟨b, 0, none⟩)) : YieldsIf Trym.prog ops S op (.agg cs.toArray) a :=
  yieldsIf_load_mid hw 52 x ho b 0 hx cs _ hS Trym.underlying52 rfl (by rw [hcs]; exact size52)

theorem pre_full {T : Nat → Prop} {w w1 : World} {br j gb capb g1 cap1 : Nat} {R : List (List Value)} {SV : Nat → Value} {cs : List Value} {bc : Array Value} (hbc : bc.size = 4096 * 22) (hnew : ∀ k, w.heap.size ≤ k → T k)
    (hst : StN T w br R (j + 1) (.slice (some ⟨gb, 0, none⟩) (j + 1) capb) SV) (hmf : R.length = 4096 * (j + 1))
    (hst3 : StN T ((((w.alloc (.cells cs.toArray 52)).alloc (.cells bc 52)).alloc (.cells #[.slice (some ⟨w.heap.size + 1, 0, none⟩) 0 4096] 53)).drew) br R (j + 1) (.slice (some ⟨gb, 0, none⟩) (j + 1) capb) SV)
    (own1 : w1.ownsRow 0 53 1 (.slice (some ⟨g1, 0, none⟩) (j + 1 + 1) cap1) (j + 1 + 1) ((List.range (j + 1)).map SV ++ [.slice (some ⟨w.heap.size + 1, 0, none⟩) 0 4096]))
    (gr1 : ((((w.alloc (.cells cs.toArray 52)).alloc (.cells bc 52)).alloc (.cells #[.slice (some ⟨w.heap.size + 1, 0, none⟩) 0 4096] 53)).drew).grownBy w1 (Value.ownBlock (.slice (some ⟨gb, 0, none⟩) (j + 1) capb)))
    (blk1 : ∀ g, Value.ownBlock (.slice (some ⟨g1, 0, none⟩) (j + 1 + 1) cap1) = some g → Value.ownBlock (.slice (some ⟨gb, 0, none⟩) (j + 1) capb) = some g ∨ ((((w.alloc (.cells cs.toArray 52)).alloc (.cells bc 52)).alloc (.cells #[.slice (some ⟨w.heap.size + 1, 0, none⟩) 0 4096] 53)).drew).heap.size ≤ g) :
    Pre T w (w1.setCell ⟨br, 0, none⟩ (.slice (some ⟨g1, 0, none⟩) (j + 1 + 1) cap1)) br w.heap.size (R.length / 4096) R cs SV := by
  have hs3 : ((((w.alloc (.cells cs.toArray 52)).alloc (.cells bc 52)).alloc (.cells #[.slice (some ⟨w.heap.size + 1, 0, none⟩) 0 4096] 53)).drew).heap.size = w.heap.size + 3 := by simp
  have hlt : ∀ b, b < j + 1 → ∀ k, (SV b).ownBlock = some k → k < w.heap.size := fun b hb k hk => ((hst.rows b hb).lt k hk).2
  have hgb : gb < w.heap.size := (hst.bo.lt gb rfl).2
  have hbr := hst.br_lt
  have hsv : ((((w.alloc (.cells cs.toArray 52)).alloc (.cells bc 52)).alloc (.cells #[.slice (some ⟨w.heap.size + 1, 0, none⟩) 0 4096] 53)).drew).ownsRow 0 52 22 (.slice (some ⟨w.heap.size + 1, 0, none⟩) 0 4096) 0 [] := by
    have h := World.ownsRow_made (base := 0) (e := 52) (size := 22) (w.alloc (.cells cs.toArray 52)) bc 4096 (Nat.zero_le _) (by unfold maxLen; omega) hbc
    have e : (w.alloc (.cells cs.toArray 52)).heap.size = w.heap.size + 1 := by simp
    rw [e] at h
    exact (h.alloc _).drew
  have h4 := hst3.push (sv := .slice (some ⟨w.heap.size + 1, 0, none⟩) 0 4096) hmf hsv (fun g hg => by
      simp only [Value.ownBlock, Option.some.injEq] at hg
      subst hg
      exact ⟨hnew _ (by omega), fun b hb e => by have := hlt b hb _ e; omega⟩) (fun _ => ⟨_, rfl⟩) (fun k hk => hnew k (by omega)) own1 gr1 blk1
  have hk : R.length / 4096 = j + 1 := by omega
  rw [hk]
  refine ⟨g1, cap1, _, h4, ?_, ?_, ?_, ?_⟩
  · rw [Below.heap_setCell _ _ _ _ (by simp; omega), gr1.block w.heap.size (by omega) (fun e => by simp only [Value.ownBlock, Option.some.injEq] at e; omega)]
    show (((w.alloc (.cells cs.toArray 52)).alloc (.cells bc 52)).alloc (.cells #[.slice (some ⟨w.heap.size + 1, 0, none⟩) 0 4096] 53)).heap[w.heap.size]? = _
    rw [Below.heap_alloc _ _ _ (by simp; omega), Below.heap_alloc _ _ _ (by simp)]
    exact heap_alloc_new w _
  · exact ((((((Grew.refl w T).alloc _).alloc _).alloc _).drew).grown gr1 hst.bT).setCell hst.hT _
  · intro b hb
    have : b < j + 1 := by unfold nbOf at hb; omega
    simp [show ¬ b = j + 1 by omega]
  · intro b hb
    by_cases e : b = j + 1
    · simp [e, Value.ownBlock]
    · simp only [if_neg e]
      intro hx
      have := hlt b (by omega) _ hx
      omega

theorem add_end {T : Nat → Prop} {w wc w1 : World} {br k gb capb ln ck g1 cap1 : Nat} {ak : Option Addr} {R : List (List Value)} {SV SV' : Nat → Value} {cs : List Value}
    (hs : StN T wc br R (k + 1) (.slice (some ⟨gb, 0, none⟩) (k + 1) capb) SV') (hk : R.length / 4096 = k) (hln : lenAt R.length k = ln) (hsv : SV' k = .slice ak ln ck) (hnew : ∀ x, w.heap.size ≤ x → T x) (hgw : Grew w wc T)
    (hsame : ∀ b, b < nbOf R.length → SV' b = SV b)
    (own1 : w1.ownsRow 0 52 22 (.slice (some ⟨g1, 0, none⟩) (ln + 1) cap1) (ln + 1) (part R k ++ cs)) (gr1 : ((wc.alloc (.cells cs.toArray 52)).drew).grownBy w1 (Value.slice ak ln ck).ownBlock)
    (blk1 : ∀ g, Value.ownBlock (.slice (some ⟨g1, 0, none⟩) (ln + 1) cap1) = some g → (Value.slice ak ln ck).ownBlock = some g ∨ ((wc.alloc (.cells cs.toArray 52)).drew).heap.size ≤ g)
    (fit1 : ∀ g cap, Value.slice ak ln ck = .slice (some ⟨g, 0, none⟩) ln cap → ln + 1 ≤ cap → Value.slice (some ⟨g1, 0, none⟩) (ln + 1) cap1 = .slice (some ⟨g, 0, none⟩) (ln + 1) cap) :
    ∃ bv' SV'', StN T ((w1.setCell ⟨gb, k, none⟩ (.slice (some ⟨g1, 0, none⟩) (ln + 1) cap1)).setCell ⟨br, 1, none⟩ (.int .i64 ((R.length : Int) + 1))) br (R ++ [cs]) (nbOf (R.length + 1)) bv' SV'' ∧
      Grew w ((w1.setCell ⟨gb, k, none⟩ (.slice (some ⟨g1, 0, none⟩) (ln + 1) cap1)).setCell ⟨br, 1, none⟩ (.int .i64 ((R.length : Int) + 1))) T ∧ ∀ b, b < nbOf R.length → (1 ≤ b ∨ 4096 ≤ R.length) → (SV'' b).ownBlock = (SV b).ownBlock := by
  have hs' : StN T ((wc.alloc (.cells cs.toArray 52)).drew) br R (k + 1) (.slice (some ⟨gb, 0, none⟩) (k + 1) capb) SV' := hs.grew (((Grew.refl wc (fun _ => False)).alloc _).drew) id (fun _ _ h => h) (fun _ _ _ _ h => h)
  have hadd := hs'.add (v' := .slice (some ⟨g1, 0, none⟩) (ln + 1) cap1) (w1 := w1) (cs := cs) hk.symm (fun x hx => hnew x (by have := hgw.size; simp at hx; omega))
    (by rw [hln]; exact own1) (by rw [hsv]; exact gr1) (by rw [hsv]; exact blk1) (by rw [hsv, hln]; exact fit1)
  have hnk : nbOf (R.length + 1) = k + 1 := by unfold nbOf; omega
  rw [hnk]
  refine ⟨_, _, hadd, ?_, ?_⟩
  · refine ((((hgw.alloc _).drew).grown gr1 (fun x hx => ?_)).setCell (hs.bT gb rfl) _).setCell hs.hT _
    rw [← hsv] at hx
    exact hs.rT k (by omega) x hx
  · intro b hb hor
    by_cases e : b = k
    · subst e
      simp only [if_true]
      rcases Nat.eq_zero_or_pos b with h0 | h0
      · subst h0; omega
      · obtain ⟨g, hg⟩ := hs.caps b h0 (by omega)
        have hlt : ln < 4096 := by rw [← hln]; unfold lenAt; omega
        rw [hln] at hg
        rw [fit1 g 4096 (by rw [← hsv]; exact hg) (by omega), ← hsame b hb, hg]
        rfl
    · simp only [if_neg e]
      rw [hsame b hb]

set_option maxHeartbeats 1000000 in
set_option maxRecDepth 100000 in
theorem f23_any (br nb : Nat) (T : Nat → Prop) (R : List (List Value)) (bv : Value) (SV : Nat → Value) (cs : List Value) (w : World) (hst : StN T w br R nb bv SV) (hnb : nb = nbOf R.length) (hm : R.length < 40000) (hnew : ∀ k, w.heap.size ≤ k → T k)
    (hcs : cs.length = 22) (hc1 : ∀ v ∈ cs, v.oneCell' = true) :
    Calls Trym.prog 23 #[.pointer (some ⟨br, 0, none⟩), .agg cs.toArray] w fun e w' => e = .returned (.tuple #[]) ∧ ∃ bv' SV', StN T w' br (R ++ [cs]) (nbOf (R.length + 1)) bv' SV' ∧ Grew w w' T ∧ ∀ b, b < nbOf R.length → (1 ≤ b ∨ 4096 ≤ R.length) → (SV' b).ownBlock = (SV b).ownBlock := by
  obtain ⟨a, capb, rfl⟩ : ∃ a capb, bv = .slice a nb capb := by
    rcases hst.bo.2 with ⟨rfl, h0⟩ | ⟨g, cap, cur, rfl, _⟩
    · exact ⟨none, 0, by rw [h0]⟩
    · exact ⟨_, _, rfl⟩
  obtain ⟨hc0, hf0⟩ := hst.cell0
  have hbr := hst.br_lt
  have hnb9 : nb ≤ 10 := by rw [hnb]; unfold nbOf; omega
  have HNB : Hid (nb = nbOf R.length) := hnb
  clear hnb
  obtain ⟨i53, hi53, hz530, hz531, hz532⟩ := info_parts Trym.info53
  have hst1 : StN T (w.alloc (.cells cs.toArray 52)) br R nb (.slice a nb capb) SV := hst.grew ((Grew.refl w (fun _ => False)).alloc _) id (fun _ _ h => h) (fun _ _ _ _ h => h)
  have hbx1 : (w.alloc (.cells cs.toArray 52)).heap[w.heap.size]? = some (.cells cs.toArray 52 (0, 0)) := heap_alloc_new w _
  have hg1 : Grew w (w.alloc (.cells cs.toArray 52)) T := (Grew.refl w T).alloc _
  have hT := hst.hT
  go_enter Trym.func23, Trym.ntmps23
  go_upto_block 0 with fail
  go_cut [4] (fun s4 wx => s4 = .int .i64 ((R.length / 4096 : Nat) : Int) ∧ Pre T w wx br w.heap.size (R.length / 4096) R cs SV)
  case first =>
    by_cases h0 : nb = 0
    · -- no block yet
      have hm0 : R.length = 0 := by have := HNB.out; unfold nbOf at this; omega
      subst h0
      have hst2 : StN T ((w.alloc (.cells cs.toArray 52)).alloc (.cells #[.slice none 0 0] 53)) br R 0 (.slice a 0 capb) SV := hst1.grew ((Grew.refl _ (fun _ => False)).alloc _) id (fun _ _ h => h) (fun _ _ _ _ h => h)
      have hst2c := hst2.cell0
      go_wp2_with (at_builtin; refine wpList_append_mine _ rfl _ _ 33 rfl 0 53 i53 (.slice none 0 0) 1 24 Trym.underlying33 hi53 hz530 hz531 hz532 rfl (by decide) (.slice a 0 capb) 0 [] rfl (by simpa using hst2.bo) ⟨w.heap.size + 1, 0, none⟩ 1 1 [.slice none 0 0] rfl rfl (by simpa using cell_one_new (w.alloc (.cells cs.toArray 52)) (.slice none 0 0) 53) (by simp [Value.oneCell']) (by unfold maxLen; omega) (by omega) (Nat.zero_le _) ?_; intro v1 w1 own1 gr1 blk1; obtain ⟨g1, cap1, hv1⟩ := owns_shape own1 (by omega); subst hv1; have e1 := grown_cell gr1 hst2c.1 (fun e => hst2.b_ne_r e rfl); have e2 := (grown_frozen gr1 hst2c.1 (fun e => hst2.b_ne_r e rfl)).trans hst2c.2)
      go_meet
      refine ⟨by rw [hm0]; rfl, ?_⟩
      have h4 := hst2.push (sv := .slice none 0 0) (by omega) (World.ownsRow_nil _ _ _ _) (fun g hg => by simp [Value.ownBlock] at hg) (fun h => by omega) (fun k hk => hnew k (by simp at hk; omega)) (by simpa using own1) gr1 blk1
      have hbb : ∀ k, (Value.slice a 0 capb).ownBlock = some k → k < w.heap.size := fun k hk => (hst.bo.lt k hk).2
      refine ⟨g1, cap1, (fun b => if b = 0 then .slice none 0 0 else SV b), ?_, ?_, ?_, ?_, ?_⟩
      · rw [show R.length / 4096 = 0 by omega]; exact h4
      · rw [Below.heap_setCell _ _ _ _ (by simp; omega), gr1.block w.heap.size (by simp; omega) (fun e => by have := hbb _ e.symm; omega), Below.heap_alloc _ _ _ (by simp)]
        exact hbx1
      · exact ((hg1.alloc _).grown gr1 hst.bT).setCell hT _
      · intro b hb; unfold nbOf at hb; omega
      · intro b hb; simp [show b = 0 by omega, Value.ownBlock]
    · obtain ⟨j, rfl⟩ : ∃ j, nb = j + 1 := ⟨nb - 1, by omega⟩
      obtain ⟨gb, capb', hbv, hgb, hTgb, hcells⟩ := hst1.shape (by omega)
      cases hbv
      have hrow := hst1.rows j (by omega)
      have hcj := hcells j (by omega)
      have hjk : 4096 * j < R.length ∧ R.length ≤ 4096 * j + 4096 := by have := HNB.out; unfold nbOf at this; omega
      obtain ⟨gj, cj, hsj⟩ := owns_shape hrow (by unfold lenAt; omega)
      rw [hsj] at hcj hrow
      have hji : (j : Int) < ((j + 1 : Nat) : Int) := by omega
      obtain ⟨ln, hln⟩ : ∃ ln, lenAt R.length j = ln := ⟨_, rfl⟩
      rw [hln] at hcj hrow hsj
      have hlb : ln ≤ 4096 := by rw [← hln]; unfold lenAt; omega
      have HLN : Hid (lenAt R.length j = ln) := hln
      have HSJ : Hid (SV j = Value.slice (some { block := gj, off := 0 }) ln cj) := hsj
      obtain ⟨hcj1, hcj2⟩ := hcj
      clear hln hsj hcells
      by_cases hfull : ln = 4096
      · subst hfull
        obtain ⟨bc, hbc, hmk⟩ := run_make53
        have HBC : Hid (bc.size = 4096 * 22) := hbc
        clear hbc
        have hmf : R.length = 4096 * (j + 1) := by have := HLN.out; unfold lenAt at this; omega
        have hst3 : StN T ((((w.alloc (.cells cs.toArray 52)).alloc (.cells bc 52)).alloc (.cells #[.slice (some ⟨w.heap.size + 1, 0, none⟩) 0 4096] 53)).drew) br R (j + 1) (.slice (some ⟨gb, 0, none⟩) (j + 1) capb) SV := hst1.grew (((((Grew.refl _ (fun _ => False)).alloc _).alloc _).drew)) id (fun _ _ h => h) (fun _ _ _ _ h => h)
        have hst3c := hst3.cell0
        go_wp2_with fail
        go_region_law ((refine step_append_all _ (by rfl) _ _ 33 (by rfl) 0 53 i53 (.slice none 0 0) 1 24 Trym.underlying33 hi53 hz530 hz531 hz532 rfl (by decide) (.slice (some ⟨gb, 0, none⟩) (j + 1) capb) (j + 1) ((List.range (j + 1)).map SV) (by rfl) (((hst1.bo.alloc _).alloc _).drew) ⟨w.heap.size + 2, 0, none⟩ 1 1 [.slice (some ⟨w.heap.size + 1, 0, none⟩) 0 4096] (by rfl) rfl (by simpa using cell_one_new ((w.alloc (.cells cs.toArray 52)).alloc (.cells bc 52)) (.slice (some ⟨w.heap.size + 1, 0, none⟩) 0 4096) 53) (by simp [Value.oneCell']) (by unfold maxLen; omega) (by omega) (Nat.zero_le _) ?_; intro v1 w1 own1 gr1 blk1 _; obtain ⟨g1, cap1, hv1⟩ := owns_shape own1 (by omega); subst hv1; have e1 := grown_cell gr1 hst3c.1 (fun e => hst3.b_ne_r e rfl); have e2 := (grown_frozen gr1 hst3c.1 (fun e => hst3.b_ne_r e rfl)).trans hst3c.2))
        all_goals
          go_wp2_with fail
          go_meet
          exact ⟨by rw [hmf]; go_num, pre_full HBC.out hnew hst hmf hst3 own1 gr1 blk1⟩
      · have hne : ((ln : Int) == 4096) = false := by simp; omega
        go_wp2_with fail
        go_meet
        have hk : R.length / 4096 = j := by have := HLN.out; unfold lenAt at this; omega
        refine ⟨by rw [hk]; go_num, gb, capb, SV, ?_, hbx1, hg1, fun _ _ => rfl, ?_⟩
        · rw [hk]; exact hst1
        · intro b hb hx
          rw [hk] at hb
          have := ((hst.rows b hb).lt _ hx).2
          omega
  case rest =>
    obtain ⟨rfl, gb, capb', SV', hs, hbx, hgw, hsame, hnbx⟩ := hcut
    clear hst1 hbx1 hg1 hc0 hf0
    obtain ⟨k, hk⟩ : ∃ k, R.length / 4096 = k := ⟨_, rfl⟩
    rw [hk] at hs hnbx ⊢
    have HK : Hid (R.length / 4096 = k) := hk
    have hk9 : k ≤ 10 := by omega
    clear hk
    obtain ⟨nk, hnk⟩ : ∃ nk, nk = k + 1 := ⟨_, rfl⟩
    have hki : (k : Int) < (nk : Int) := by omega
    obtain ⟨c0, f0⟩ := hs.cell0
    obtain ⟨c1, f1⟩ := hs.cell1
    obtain ⟨_, _, hbv, hgb, _, hcells⟩ := hs.shape (by omega)
    cases hbv
    have hrow := hs.rows k (by omega)
    have hck := hcells k (by omega)
    rw [← hnk] at c0
    have HN : Hid (nk = k + 1) := hnk
    clear hcells hnk
    obtain ⟨ln, hln⟩ : ∃ ln, lenAt R.length k = ln := ⟨_, rfl⟩
    have hlb : ln < 4096 := by rw [← hln]; have := HK.out; unfold lenAt; omega
    rw [hln] at hrow
    have HLN2 : Hid (lenAt R.length k = ln) := hln
    clear hln
    obtain ⟨ak, ck, hsv⟩ : ∃ ak ck, SV' k = .slice ak ln ck := by
      rcases hrow.2 with ⟨e, h0⟩ | ⟨g, cap, cur, e, _⟩
      · exact ⟨none, 0, by rw [e, h0]⟩
      · exact ⟨_, _, e⟩
    rw [hsv] at hrow hck
    obtain ⟨ck1, ck2⟩ := hck
    have hbrc := hs.br_lt
    go_wp2_with fail
    have hS0 : (fun w' : World => w'.cell? ⟨br, 0, none⟩ = some (.slice (some ⟨gb, 0, none⟩) nk capb') ∧ w'.rangeAt w.heap.size 0 cs) (wc.drew) := ⟨c0, fun j v hv => by
      show wc.cell? _ = _
      rw [cell_of_row wc w.heap.size (0 + j) _ 52 (0, 0) hbx]; simpa using hv⟩
    refine wp_region_held (S := fun w' : World => w'.cell? ⟨br, 0, none⟩ = some (.slice (some ⟨gb, 0, none⟩) nk capb') ∧ w'.rangeAt w.heap.size 0 cs) (by kernel_rfl) ?_
    change wpAnyH _ _ _ _ _ _ _ _ (World.drew _)
    refine wpAnyH_take (i := 0) (v := ?_) rfl (by kernel_rfl) (by kernel_rfl) (by kernel_rfl) (fun _ _ _ h => h) (Or.inl ⟨by rfl, ?_⟩) hS0 ?_
    rotate_left
    · intro w' hw'; have hr0' := hw'.1; go_simp; try with_reducible rfl
    refine wpAnyH_take (i := 1) (v := ?_) rfl (by kernel_rfl) (by kernel_rfl) (by kernel_rfl) (fun _ _ _ h => h) (Or.inl ⟨by rfl, ?_⟩) hS0 ?_
    rotate_left
    · intro w' hw'; have hr0' := hw'.1; go_simp; try with_reducible rfl
    refine wpAnyH_take (i := 2) (v := ?_) rfl (by kernel_rfl) (by kernel_rfl) (by kernel_rfl) (fun _ _ _ h => h) (Or.inl ⟨by rfl, ?_⟩) hS0 ?_
    rotate_left
    · intro w' hw'; have hr0' := hw'.1; go_simp; try with_reducible rfl
    refine wpAnyH_take (i := 3) (v := ?_) rfl (by kernel_rfl) (by kernel_rfl) (by kernel_rfl) (fun _ _ _ h => h) (Or.inl ⟨by rfl, ?_⟩) hS0 ?_
    rotate_left
    · intro w' hw'; have hr0' := hw'.1; go_simp; try with_reducible rfl
    refine wpAnyH_take (i := 4) (v := ?_) rfl (by kernel_rfl) (by kernel_rfl) (by kernel_rfl) (fun _ _ _ h => h) (Or.inl ⟨by rfl, ?_⟩) hS0 ?_
    rotate_left
    · intro w' hw'; have hr0' := hw'.1; go_simp; try with_reducible rfl
    refine wpAnyH_take (i := 5) (v := ?_) rfl (by kernel_rfl) (by kernel_rfl) (by kernel_rfl) (fun _ _ _ h => h) (Or.inl ⟨by rfl, ?_⟩) hS0 ?_
    rotate_left
    · intro w' hw'; have hr0' := hw'.1; go_simp; try with_reducible rfl
    refine wpAnyH_take (i := 6) (v := ?_) rfl (by kernel_rfl) (by kernel_rfl) (by kernel_rfl) (fun _ _ _ h => h) (Or.inl ⟨by rfl, ?_⟩) hS0 ?_
    rotate_left
    · intro w' hw'; have hr0' := hw'.1; go_simp; try with_reducible rfl
    refine wpAnyH_take (i := 7) (v := ?_) rfl (by kernel_rfl) (by kernel_rfl) (by kernel_rfl) (fun _ _ _ h => h) (Or.inl ⟨by rfl, ?_⟩) hS0 ?_
    rotate_left
    · intro w' hw'; have hr0' := hw'.1; go_simp; try with_reducible rfl
    refine wpAnyH_take (i := 8) (v := ?_) rfl (by kernel_rfl) (by kernel_rfl) (by kernel_rfl) (fun _ _ _ h => h) (Or.inl ⟨by rfl, ?_⟩) hS0 ?_
    rotate_left
    · intro w' hw'; have hr0' := hw'.1; go_simp; try with_reducible rfl
    refine wpAnyH_take (i := 9) (v := ?_) rfl (by kernel_rfl) (by kernel_rfl) (by kernel_rfl) (fun _ _ _ h => h) (Or.inl ⟨by rfl, ?_⟩) hS0 ?_
    rotate_left
    · intro w' hw'; have hr0' := hw'.1; go_simp; try with_reducible rfl
    refine wpAnyH_take (i := 10) (v := ?_) rfl (by kernel_rfl) (by kernel_rfl) (by kernel_rfl) (fun _ _ _ h => h) (Or.inl ⟨by rfl, ?_⟩) hS0 ?_
    rotate_left
    · intro w' hw'; have hr0' := hw'.1; go_simp; try with_reducible rfl
    refine wpAnyH_take (i := 12) (v := .agg cs.toArray) rfl (by kernel_rfl) (by kernel_rfl) (by kernel_rfl) (fun _ _ _ h => h) (load52 hcs (.tmp 3) rfl (fun _ h => h.2) rfl ?_) hS0 ?_
    · simp [Act.eval, Act.put]
    have hfold := fold_set #[Value.int .u8 0, Value.int .u8 0, Value.int .u8 0, Value.int .u8 0, Value.int .u8 0, Value.int .u8 0, Value.int .u8 0, Value.int .u8 0, Value.int .u8 0, Value.int .u8 0, Value.int .u8 0, Value.int .u8 0, Value.int .u8 0, Value.int .u8 0, Value.int .u8 0, Value.int .u8 0, Value.int .u8 0, Value.int .u8 0, Value.int .u8 0, Value.int .u8 0, Value.int .u32 0, Value.int .i64 0] cs (by simp [hcs])
    have hr2 : (wc.alloc (.cells cs.toArray 52)).rangeAt w.heap.size 0 cs := World.rangeAt_alloc (range_of_block hbx) _
    have hkb : ∀ g, (Value.slice ak ln ck).ownBlock = some g → g ≠ br ∧ g ≠ gb ∧ g ≠ w.heap.size := fun g hg => by
      rw [← hsv] at hg
      refine ⟨hs.row_ne_r (by omega) hg, fun e => ?_, fun e => ?_⟩
      · subst e; exact hs.row_ne_b (by omega) hg rfl
      · subst e; exact hnbx k (by omega) hg
    have hbxl : w.heap.size < wc.heap.size := (Array.getElem?_eq_some_iff.1 hbx).1
    obtain ⟨i52, hi52, hz520, hz521, hz522⟩ := info_parts Trym.info52
    have HB : Hid (∀ g, (Value.slice ak ln ck).ownBlock = some g → g ≠ br ∧ g ≠ gb ∧ g ≠ w.heap.size) := hkb
    have HX : Hid (wc.heap[w.heap.size]? = some (.cells cs.toArray 52 (0, 0))) := hbx
    clear hkb hbx
    have hgbr : gb ≠ br := hs.b_ne_r rfl
    have hwgb : ¬ w.heap.size = gb := by
      intro e
      obtain ⟨cur, hcur⟩ := owns_block hs.bo (g := gb) rfl
      rw [← e, HX.out] at hcur
      simp at hcur
    refine held_two (i := 11) (j := 13) rfl rfl (by kernel_rfl) rfl rfl ?_ ?_
    · go_simp
      refine held_one (i := 13) rfl (by kernel_rfl) rfl ?_
      go_simp
      refine held_one (i := 14) rfl (by kernel_rfl) rfl ?_
      refine wp_append_all _ (.tmp 56) (.tmp 58) 53 rfl 0 52 i52 zero52 22 32 Trym.underlying53 hi52 hz520 hz521 hz522 zero52_size (by decide) (.slice ak ln ck) ln (part R k) rfl (hrow.alloc _).drew ⟨wc.heap.size, 0, none⟩ 1 1 cs rfl (by rw [hcs]) news_new hc1 (by unfold maxLen; omega) (by omega) (Nat.zero_le _) ?_
      intro v1 w1 own1 gr1 blk1 fit1
      obtain ⟨g1, cap1, hv1⟩ := owns_shape own1 (by omega)
      subst hv1
      obtain ⟨d0, d0f⟩ := cell_later3 c0 f0 gr1 (fun e => (HB.out _ e).1 rfl)
      obtain ⟨d1, d1f⟩ := cell_later3 c1 f1 gr1 (fun e => (HB.out _ e).1 rfl)
      obtain ⟨dk, dkf⟩ := cell_later3 ck1 ck2 gr1 (fun e => (HB.out _ e).2.1 rfl)
      have hrb : w1.heap[w.heap.size]? = some (.cells cs.toArray 52 (0, 0)) := by
        rw [gr1.block w.heap.size (by simp; omega) (fun e => (HB.out _ e.symm).2.2 rfl)]
        show (wc.alloc _).heap[w.heap.size]? = _
        rw [Below.heap_alloc _ _ _ hbxl]; exact HX.out
      have hr3 := range_of_block hrb
      have hr4 : (w1.setCell ⟨gb, k, none⟩ (.slice (some ⟨g1, 0, none⟩) (ln + 1) cap1)).rangeAt w.heap.size 0 cs := range_of_block (t := 52) (fr := (0, 0)) (by rw [Below.heap_setCell _ _ _ _ (by simpa using hwgb)]; exact hrb)
      refine ⟨⟨d0, hr3⟩, ?_⟩
      clear hrb
      refine held_one (i := 15) rfl (by kernel_rfl) rfl ?_
      go_simp
      refine held_one (i := 16) rfl (by kernel_rfl) rfl ?_
      go_simp
      refine wpAnyH_done (by kernel_rfl) ?_ _
      go_wp2
      go_end0
      exact ⟨rfl, add_end hs HK.out HLN2.out hsv hnew hgw hsame own1 gr1 blk1 fit1⟩
    · go_simp
      refine held_one (i := 11) rfl (by kernel_rfl) rfl ?_
      go_simp
      refine held_one (i := 14) rfl (by kernel_rfl) rfl ?_
      refine wp_append_all _ (.tmp 56) (.tmp 58) 53 rfl 0 52 i52 zero52 22 32 Trym.underlying53 hi52 hz520 hz521 hz522 zero52_size (by decide) (.slice ak ln ck) ln (part R k) rfl (hrow.alloc _).drew ⟨wc.heap.size, 0, none⟩ 1 1 cs rfl (by rw [hcs]) news_new hc1 (by unfold maxLen; omega) (by omega) (Nat.zero_le _) ?_
      intro v1 w1 own1 gr1 blk1 fit1
      obtain ⟨g1, cap1, hv1⟩ := owns_shape own1 (by omega)
      subst hv1
      obtain ⟨d0, d0f⟩ := cell_later3 c0 f0 gr1 (fun e => (HB.out _ e).1 rfl)
      obtain ⟨d1, d1f⟩ := cell_later3 c1 f1 gr1 (fun e => (HB.out _ e).1 rfl)
      obtain ⟨dk, dkf⟩ := cell_later3 ck1 ck2 gr1 (fun e => (HB.out _ e).2.1 rfl)
      have hrb : w1.heap[w.heap.size]? = some (.cells cs.toArray 52 (0, 0)) := by
        rw [gr1.block w.heap.size (by simp; omega) (fun e => (HB.out _ e.symm).2.2 rfl)]
        show (wc.alloc _).heap[w.heap.size]? = _
        rw [Below.heap_alloc _ _ _ hbxl]; exact HX.out
      have hr3 := range_of_block hrb
      have hr4 : (w1.setCell ⟨gb, k, none⟩ (.slice (some ⟨g1, 0, none⟩) (ln + 1) cap1)).rangeAt w.heap.size 0 cs := range_of_block (t := 52) (fr := (0, 0)) (by rw [Below.heap_setCell _ _ _ _ (by simpa using hwgb)]; exact hrb)
      refine ⟨⟨d0, hr3⟩, ?_⟩
      clear hrb
      refine held_one (i := 15) rfl (by kernel_rfl) rfl ?_
      go_simp
      refine held_one (i := 16) rfl (by kernel_rfl) rfl ?_
      go_simp
      refine wpAnyH_done (by kernel_rfl) ?_ _
      go_wp2
      go_end0
      exact ⟨rfl, add_end hs HK.out HLN2.out hsv hnew hgw hsame own1 gr1 blk1 fit1⟩
end Go.Proofs.Qxb6601483aMods
