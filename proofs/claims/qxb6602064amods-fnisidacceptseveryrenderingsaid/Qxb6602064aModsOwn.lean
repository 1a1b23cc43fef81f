/-
  NO GO PROGRAM HERE. Which blocks a call writes: 'Grew w w' S': of the blocks that were there only those of S may have turned. And the law of append that tells where the new value lies: in the old row's own block, or in a new one.
-/
import Derived.WalkKit
import Derived.Deep.AppendSrc
namespace Go.Proofs.Qxb6602064aMods
open Go.RowKit

/-- Of the blocks that were there only those of S may have turned. -/
structure Grew (w w' : World) (S : Nat → Prop) : Prop where
  os : w'.os = w.os
  tape : w'.tape = w.tape
  output : w'.output = w.output
  size : w.heap.size ≤ w'.heap.size
  block : ∀ k, k < w.heap.size → ¬ S k → w'.heap[k]? = w.heap[k]?

theorem Grew.refl (w : World) (S : Nat → Prop) : Grew w w S := ⟨rfl, rfl, rfl, Nat.le_refl _, fun _ _ _ => rfl⟩
theorem Grew.trans {a b c : World} {S : Nat → Prop} (h : Grew a b S) (k : Grew b c S) : Grew a c S :=
  ⟨k.os.trans h.os, k.tape.trans h.tape, k.output.trans h.output, Nat.le_trans h.size k.size, fun i hi hs => (k.block i (Nat.lt_of_lt_of_le hi h.size) hs).trans (h.block i hi hs)⟩
theorem Grew.mono {a b : World} {S T : Nat → Prop} (h : Grew a b S) (hT : ∀ k, k < a.heap.size → S k → T k) : Grew a b T :=
  ⟨h.os, h.tape, h.output, h.size, fun i hi hs => h.block i hi (fun hh => hs (hT i hi hh))⟩
theorem Grew.drew {a w : World} {S : Nat → Prop} (h : Grew a w S) : Grew a w.drew S := ⟨h.os, h.tape, h.output, h.size, h.block⟩
theorem Grew.alloc {a w : World} {S : Nat → Prop} (h : Grew a w S) (o : Obj) : Grew a (w.alloc o) S :=
  h.trans ⟨rfl, rfl, rfl, by simp, fun k hk _ => Below.heap_alloc _ _ _ hk⟩
theorem Grew.setCell {a w : World} {S : Nat → Prop} (h : Grew a w S) {p : Addr} (hp : S p.block) (u : Value) : Grew a (w.setCell p u) S :=
  h.trans ⟨rfl, rfl, rfl, by simp [World.setCell], fun k _ hs => Below.heap_setCell _ _ _ _ (fun e => hs (e ▸ hp))⟩
theorem Grew.grown {a w w' : World} {S : Nat → Prop} {row : Option Nat} (h : Grew a w S) (hg : w.grownBy w' row) (hr : ∀ k, row = some k → S k) : Grew a w' S :=
  h.trans ⟨hg.os, hg.tape, hg.output, hg.size, fun k hk hs => hg.block k hk (fun e => hs (hr k e.symm))⟩
theorem Grew.below {w w' : World} {S : Nat → Prop} {B : Nat} (h : Grew w w' S) (hB : B ≤ w.heap.size) (hS : ∀ k, k < B → ¬ S k) : Below B w w' :=
  ⟨h.os, h.tape, h.output, h.size, fun k hk => h.block k (by omega) (hS k hk)⟩
theorem Grew.of_below {w w' : World} {B : Nat} (h : Below B w w') : Grew w w' (fun k => B ≤ k) :=
  ⟨h.os, h.tape, h.output, h.size, fun k _ hs => h.block k (by omega)⟩

theorem Grew.cell {w w' : World} {S : Nat → Prop} (h : Grew w w' S) {p : Addr} (hp : p.block < w.heap.size) (hs : ¬ S p.block) : w'.cell? p = w.cell? p := World.cell?_of_block (w := w) (h.block p.block hp hs)

/-- What a slice owns is still owned where its block has not turned. -/
theorem owns_grew {w w' : World} {S : Nat → Prop} {base : Nat} {e : TypeId} {size : Nat} {v : Value} {n : Nat} {xs : List Value} (h : w.ownsRow base e size v n xs) (hg : Grew w w' S) (hS : ∀ k, v.ownBlock = some k → ¬ S k) : w'.ownsRow base e size v n xs := by
  refine ⟨h.1, ?_⟩
  rcases h.2 with hn | ⟨g, cap, cur, rfl, hb, hgg, rest⟩
  · exact .inl hn
  · refine .inr ⟨g, cap, cur, rfl, hb, ?_, rest⟩
    rw [hg.block g (Array.getElem?_eq_some_iff.1 hgg).1 (hS g rfl)]
    exact hgg

theorem owns_base {w : World} {base base' : Nat} {e : TypeId} {size : Nat} {v : Value} {n : Nat} {xs : List Value} (h : w.ownsRow base e size v n xs) (hb : ∀ k, v.ownBlock = some k → base' ≤ k) : w.ownsRow base' e size v n xs := by
  refine ⟨h.1, ?_⟩
  rcases h.2 with hn | ⟨g, cap, cur, rfl, _, rest⟩
  · exact .inl hn
  · exact .inr ⟨g, cap, cur, rfl, hb g rfl, rest⟩

section
variable {P : Program} (w : World)

theorem append_block (base : Nat) (t ty e : TypeId) (i : TypeInfo) (z : Value) (size bytes : Nat) (ht : P.underlying t = some (.slice e)) (hi : P.info? e = some i) (hz : i.zero = some z)
    (hsize : i.size = size) (hby : i.bytes = bytes) (hzs : z.cells.size = size) (hsz : 0 < size)
    (v : Value) (n : Nat) (xs : List Value) (hown : w.ownsRow base e size v n xs)
    (a : Addr) (m c : Nat) (news : List Value) (hl : news.length = m * size) (hnews : ∀ j u, news[j]? = some u → w.cell? (a.add j) = some u) (h1 : ∀ u ∈ news, u.oneCell' = true)
    (h63 : n + m ≤ maxLen) (hbytes : (n + m) * bytes ≤ 140737488355328) {v' : Value} {w' : World}
    (hr : (Builtin.append_ #[t, t] ty #[v, .slice (some a) m c]).run P w = .ok v' w') : ∀ g, v'.ownBlock = some g → v.ownBlock = some g ∨ w.heap.size ≤ g := by
  intro g hg
  have hown' := hown
  rcases hown.2 with ⟨rfl, rfl⟩ | ⟨g0, cap, cur, rfl, hb, hgg, rest⟩
  · have hx : xs = [] := List.eq_nil_of_length_eq_zero (by simpa using hown.1)
    subst hx
    obtain ⟨v2, w2, r1, r2, _⟩ := run_append_own (P := P) w w.heap.size t ty e i z size bytes ht hi hz hsize hby hzs hsz (.slice none 0 0) 0 [] (World.ownsRow_nil _ _ _ _) a m c news hl hnews h1 h63 hbytes (Nat.le_refl _)
    rw [hr] at r1
    cases r1
    exact .inr (r2.lt g hg).1
  · by_cases hroom : n + m ≤ cap
    · obtain ⟨w2, r1, _⟩ := run_append_fits (P := P) w base t ty e i size ht hi hsize g0 n cap xs hown' a m c news hl hnews h1 hroom
      rw [hr] at r1
      cases r1
      exact .inl hg
    · obtain ⟨v2, w2, r1, r2, _⟩ := run_append_arg_grows (P := P) w t ty e i z size bytes ht hi hz hsize hby hzs hsz ⟨g0, 0, none⟩ n cap xs hown'.1 (hown'.cells rfl) a m c news hl hnews (by omega) h63 hbytes
      rw [hr] at r1
      cases r1
      exact .inr (r2.lt g hg).1

/-- 'wpList_append_own', AND WHERE THE NEW VALUE LIES. -/
theorem wpList_append_mine {ops : Array Oper} {rest : List Oper} {o : Oper} {a : Act} {Q : Exit → Act → World → Prop} (hgd : o.guard = none) (s x : Operand) (t : TypeId)
    (ho : o.op = .call { callee := .builtin .append, args := #[s, x], argTypes := #[t, t] })
    (base : Nat) (e : TypeId) (i : TypeInfo) (z : Value) (size bytes : Nat) (ht : P.underlying t = some (.slice e)) (hi : P.info? e = some i) (hz : i.zero = some z)
    (hsize : i.size = size) (hby : i.bytes = bytes) (hzs : z.cells.size = size) (hsz : 0 < size)
    (v : Value) (n : Nat) (xs : List Value) (hs : a.eval s = v) (hown : w.ownsRow base e size v n xs)
    (ad : Addr) (m c : Nat) (news : List Value) (hx : a.eval x = .slice (some ad) m c) (hl : news.length = m * size) (hnews : ∀ j u, news[j]? = some u → w.cell? (ad.add j) = some u) (h1 : ∀ u ∈ news, u.oneCell' = true)
    (h63 : n + m ≤ maxLen) (hbytes : (n + m) * bytes ≤ 140737488355328) (hbase : base ≤ w.heap.size)
    (h : ∀ v' w', w'.ownsRow base e size v' (n + m) (xs ++ news) → w.grownBy w' v.ownBlock → (∀ g, v'.ownBlock = some g → v.ownBlock = some g ∨ w.heap.size ≤ g) → wpList P ops Q rest (a.put o.dst v') w') :
    wpList P ops Q (o :: rest) a w := by
  refine wpList_plain hgd fun K hK' => ?_
  obtain ⟨v', w', hr, h2, h3, h4⟩ := run_append_own (P := P) w base t o.type e i z size bytes ht hi hz hsize hby hzs hsz v n xs hown ad m c news hl hnews h1 h63 hbytes hbase
  have h5 := append_block (P := P) w base t o.type e i z size bytes ht hi hz hsize hby hzs hsz v n xs hown ad m c news hl hnews h1 h63 hbytes hr
  unfold Oper.wp execOp
  simp only [ho, resolve, invoke, builtin, Sem.run_bind, Sem.run_pure, Result.andThen_ok, List.map_toArray, List.map_cons, List.map_nil, hs, hx, hr]
  exact hK' _ _ (h v' w' h2 h3 h5)
end

/-! ### append from whatever source (a slice, a string), onto a row of one-cell elements -/
section
variable {P : Program} (w : World)

theorem run_append_src (t tx ty e : TypeId) (i : TypeInfo) (z : Value) (bytes : Nat) (ht : P.underlying t = some (.slice e)) (hi : P.info? e = some i) (hz : i.zero = some z)
    (hsize : i.size = 1) (hby : i.bytes = bytes) (hzs : z.cells.size = 1)
    (v : Value) (n : Nat) (xs : List Value) (hown : w.ownsRow 0 e 1 v n xs) (x : Value) (m : Nat) (news : List Value) (hs : Src P 1 tx x m news w)
    (h63 : n + m ≤ maxLen) (hbytes : (n + m) * bytes ≤ 140737488355328) :
    ∃ v' w', (Builtin.append_ #[t, tx] ty #[v, x]).run P w = .ok v' w' ∧ w'.ownsRow 0 e 1 v' (n + m) (xs ++ news) ∧ w.grownBy w' v.ownBlock ∧ (∀ g, v'.ownBlock = some g → v.ownBlock = some g ∨ w.heap.size ≤ g) := by
  subst hby
  have hsmall : ((n + m : Nat) : Int) ≤ 9223372036854775807 := by simp only [maxLen] at h63; omega
  have hnl : news.length = m := by simpa using hs.newsLen
  have hlen : (xs ++ news).length = (n + m) * 1 := by rw [List.length_append, hown.1, hnl]; omega
  have hs' : Src P i.size tx x m news w := by rw [hsize]; exact hs
  -- the new row
  have grown : ∀ (cap : Nat) (base : Option Addr), cap < n + m → (Builtin.firstCells i.size n (.slice base n cap)).run P w.drew = .ok xs.toArray w.drew →
      ∃ v' w', (Builtin.append_ #[t, tx] ty #[.slice base n cap, x]).run P w = .ok v' w' ∧ w'.ownsRow 0 e 1 v' (n + m) (xs ++ news) ∧ (∀ row, w.grownBy w' row) ∧ (∀ g, v'.ownBlock = some g → w.heap.size ≤ g) := by
    intro cap base hcap hold
    have hr := run_append_grow_src (P := P) w t tx ty e i z ht hi hz base n cap xs hold x m news hs' hcap hsmall (growslice_fits (by omega) hbytes)
    have hge := grownCap_ge w (n + m) cap e
    have hcm : grownCap w (n + m) cap e ≤ maxLen := grownCap_le_maxLen w (n + m) cap e h63
    refine ⟨_, _, hr, ⟨hlen, .inr ⟨w.heap.size, _, _, rfl, Nat.zero_le _, heap_alloc_new w.drew _, hge, hcm, ?_, ?_⟩⟩, fun row => ⟨rfl, rfl, rfl, by simp, fun k hk _ => Below.heap_alloc w.drew _ k hk⟩, ?_⟩
    · simp only [Array.size_append, List.size_toArray, size_zeroCells, hzs, hlen]
      omega
    · simp only [Array.toList_append]
      rw [← hlen]
      exact List.take_left
    · intro g hg
      simp only [Value.ownBlock, Option.some.injEq] at hg
      omega
  rcases hown.2 with ⟨rfl, rfl⟩ | ⟨g, cap, cur, rfl, hbg, hg, hnc, hcm, hcs, htake⟩
  · have hx : xs = [] := List.eq_nil_of_length_eq_zero (by simpa using hown.1)
    subst hx
    by_cases hm : m = 0
    · subst hm
      have hn : news = [] := List.eq_nil_of_length_eq_zero hnl
      subst hn
      refine ⟨.slice none 0 0, w, ?_, World.ownsRow_nil w 0 e 1, ⟨rfl, rfl, rfl, Nat.le_refl _, fun _ _ _ => rfl⟩, by simp [Value.ownBlock]⟩
      have hc := hs'.cells
      rcases hs.kind with ⟨e', hk⟩ | hk <;> simp [Builtin.append_, run_underlying ht, run_underlying hk, sizeOf, typeInfo, hi, hs.len, hc]
    · obtain ⟨v', w', h1, h2, h3, h4⟩ := grown 0 none (by omega) (by simp [Builtin.firstCells])
      exact ⟨v', w', h1, h2, h3 _, fun g hg => .inr (h4 g hg)⟩
  · by_cases hroom : n + m ≤ cap
    · have hfit : n * i.size + 0 + news.length ≤ cur.size := by rw [hnl, hcs, hsize]; omega
      have hst := run_storeCells_at P g (n * i.size) e news 0 cur w hg hfit hs.one
      simp only [Nat.add_zero] at hst
      have hc := hs'.cells
      have hr : (Builtin.append_ #[t, tx] ty #[.slice (some ⟨g, 0, none⟩) n cap, x]).run P w = .ok (.slice (some ⟨g, 0, none⟩) (n + m) cap) (w.setRow g (cur.toList.take (n * i.size) ++ news ++ cur.toList.drop (n * i.size + news.length)).toArray) := by
        rcases hs.kind with ⟨e', hk⟩ | hk <;> simp [Builtin.append_, run_underlying ht, run_underlying hk, sizeOf, typeInfo, hi, hs.len, hroom, hc, Addr.add_lit, hst]
      refine ⟨_, _, hr, ⟨hlen, .inr ⟨g, cap, _, rfl, hbg, setRow_heap w g cur _ e _ hg, hroom, hcm, ?_, ?_⟩⟩, ⟨rfl, rfl, rfl, by simp, fun k _ hk => setRow_other w g k _ (fun e => hk (by simp [Value.ownBlock, e]))⟩, fun g' hg' => .inl hg'⟩
      · simp only [List.size_toArray, List.length_append, List.length_take, List.length_drop, Array.length_toList]
        omega
      · rw [hsize, htake, ← hlen]
        exact List.take_left
    · have hcells : ∀ j u, xs[j]? = some u → w.cell? ((⟨g, 0, none⟩ : Addr).add j) = some u := hown.cells (g := g) rfl
      obtain ⟨v', w', h1, h2, h3, h4⟩ := grown cap (some ⟨g, 0, none⟩) (by omega) (run_firstCells_some (P := P) w.drew i.size n ⟨g, 0, none⟩ n cap xs (by rw [hsize]; exact hown.1) (by simpa using hcells))
      exact ⟨v', w', h1, h2, h3 _, fun g hg => .inr (h4 g hg)⟩

theorem wp_append_src {o : Oper} {a : Act} {K : Act → World → Prop} {Q : Exit → Act → World → Prop} (s x : Operand) (t tx : TypeId)
    (ho : o.op = .call { callee := .builtin .append, args := #[s, x], argTypes := #[t, tx] })
    (e : TypeId) (i : TypeInfo) (z : Value) (bytes : Nat) (ht : P.underlying t = some (.slice e)) (hi : P.info? e = some i) (hz : i.zero = some z)
    (hsize : i.size = 1) (hby : i.bytes = bytes) (hzs : z.cells.size = 1)
    (v : Value) (n : Nat) (xs : List Value) (hv : a.eval s = v) (hown : w.ownsRow 0 e 1 v n xs) (u : Value) (m : Nat) (news : List Value) (hx : a.eval x = u) (hs : Src P 1 tx u m news w)
    (h63 : n + m ≤ maxLen) (hbytes : (n + m) * bytes ≤ 140737488355328)
    (h : ∀ v' w', w'.ownsRow 0 e 1 v' (n + m) (xs ++ news) → w.grownBy w' v.ownBlock → (∀ g, v'.ownBlock = some g → v.ownBlock = some g ∨ w.heap.size ≤ g) → K (a.put o.dst v') w') : o.wp P a w K Q := by
  obtain ⟨v', w', hr, h2, h3, h4⟩ := run_append_src (P := P) w t tx o.type e i z bytes ht hi hz hsize hby hzs v n xs hown u m news hs h63 hbytes
  unfold Oper.wp execOp
  simp only [ho, resolve, invoke, builtin, Sem.run_bind, Sem.run_pure, Result.andThen_ok, List.map_toArray, List.map_cons, List.map_nil, hv, hx, hr]
  exact h v' w' h2 h3 h4

theorem wpList_append_src {ops : Array Oper} {rest : List Oper} {o : Oper} {a : Act} {Q : Exit → Act → World → Prop} (hgd : o.guard = none) (s x : Operand) (t tx : TypeId)
    (ho : o.op = .call { callee := .builtin .append, args := #[s, x], argTypes := #[t, tx] })
    (e : TypeId) (i : TypeInfo) (z : Value) (bytes : Nat) (ht : P.underlying t = some (.slice e)) (hi : P.info? e = some i) (hz : i.zero = some z)
    (hsize : i.size = 1) (hby : i.bytes = bytes) (hzs : z.cells.size = 1)
    (v : Value) (n : Nat) (xs : List Value) (hv : a.eval s = v) (hown : w.ownsRow 0 e 1 v n xs) (u : Value) (m : Nat) (news : List Value) (hx : a.eval x = u) (hs : Src P 1 tx u m news w)
    (h63 : n + m ≤ maxLen) (hbytes : (n + m) * bytes ≤ 140737488355328)
    (h : ∀ v' w', w'.ownsRow 0 e 1 v' (n + m) (xs ++ news) → w.grownBy w' v.ownBlock → (∀ g, v'.ownBlock = some g → v.ownBlock = some g ∨ w.heap.size ≤ g) → wpList P ops Q rest (a.put o.dst v') w') : wpList P ops Q (o :: rest) a w :=
  wpList_plain hgd fun _ hK => wp_append_src w s x t tx ho e i z bytes ht hi hz hsize hby hzs v n xs hv hown u m news hx hs h63 hbytes fun v' w' h2 h3 h4 => hK _ _ (h v' w' h2 h3 h4)
end
end Go.Proofs.Qxb6602064aMods
