/-
  NO GO PROGRAM HERE. Which blocks a call writes: 'Grew w w' S': of the blocks that were there only those of S may have turned. And the law of append that tells where the new value lies: in the old row's own block, or in a new one.
-/
import Derived.WalkKit
namespace Go.Proofs.Qxb6601483aMods
open Go.RowKit

/-- Of the blocks that were there only those of S may have turned. -/
structure Grew (w w' : World) (S : Nat → Prop) : Prop where
  os : w'.os = w.os
  tape : w'.tape = w.tape
  output : w'.output = w.output
  size : w.heap.size ≤ w'.heap.size
  block : ∀ k, k < w.heap.size → ¬ S k → w'.heap[k]? = w.heap[k]?

theorem Grew.refl (w : World) (S : Nat → Prop) : Grew w w S := ⟨rfl, rfl, rfl, Nat.le_refl _, fun _ _ _ => rfl⟩
theorem Grew.trans {a b c : World} {S : Nat → Prop} (h : Grew a b S) (k : Grew b c S) : Grew a c S :=
  ⟨k.os.trans h.os, k.tape.trans h.tape, k.output.trans h.output, Nat.le_trans h.size k.size, fun i hi hs => (k.block i (Nat.lt_of_lt_of_le hi h.size) hs).trans (h.block i hi hs)⟩
theorem Grew.mono {a b : World} {S T : Nat → Prop} (h : Grew a b S) (hT : ∀ k, k < a.heap.size → S k → T k) : Grew a b T :=
  ⟨h.os, h.tape, h.output, h.size, fun i hi hs => h.block i hi (fun hh => hs (hT i hi hh))⟩
theorem Grew.drew {a w : World} {S : Nat → Prop} (h : Grew a w S) : Grew a w.drew S := ⟨h.os, h.tape, h.output, h.size, h.block⟩
theorem Grew.alloc {a w : World} {S : Nat → Prop} (h : Grew a w S) (o : Obj) : Grew a (w.alloc o) S :=
  h.trans ⟨rfl, rfl, rfl, by simp, fun k hk _ => Below.heap_alloc _ _ _ hk⟩
theorem Grew.setCell {a w : World} {S : Nat → Prop} (h : Grew a w S) {p : Addr} (hp : S p.block) (u : Value) : Grew a (w.setCell p u) S :=
  h.trans ⟨rfl, rfl, rfl, by simp [World.setCell], fun k _ hs => Below.heap_setCell _ _ _ _ (fun e => hs (e ▸ hp))⟩
theorem Grew.grown {a w w' : World} {S : Nat → Prop} {row : Option Nat} (h : Grew a w S) (hg : w.grownBy w' row) (hr : ∀ k, row = some k → S k) : Grew a w' S :=
  h.trans ⟨hg.os, hg.tape, hg.output, hg.size, fun k hk hs => hg.block k hk (fun e => hs (hr k e.symm))⟩
theorem Grew.below {w w' : World} {S : Nat → Prop} {B : Nat} (h : Grew w w' S) (hB : B ≤ w.heap.size) (hS : ∀ k, k < B → ¬ S k) : Below B w w' :=
  ⟨h.os, h.tape, h.output, h.size, fun k hk => h.block k (by omega) (hS k hk)⟩
theorem Grew.of_below {w w' : World} {B : Nat} (h : Below B w w') : Grew w w' (fun k => B ≤ k) :=
  ⟨h.os, h.tape, h.output, h.size, fun k _ hs => h.block k (by omega)⟩

/-- What a slice owns is still owned where its block has not turned. -/
theorem owns_grew {w w' : World} {S : Nat → Prop} {base : Nat} {e : TypeId} {size : Nat} {v : Value} {n : Nat} {xs : List Value} (h : w.ownsRow base e size v n xs) (hg : Grew w w' S) (hS : ∀ k, v.ownBlock = some k → ¬ S k) : w'.ownsRow base e size v n xs := by
  refine ⟨h.1, ?_⟩
  rcases h.2 with hn | ⟨g, cap, cur, rfl, hb, hgg, rest⟩
  · exact .inl hn
  · refine .inr ⟨g, cap, cur, rfl, hb, ?_, rest⟩
    rw [hg.block g (Array.getElem?_eq_some_iff.1 hgg).1 (hS g rfl)]
    exact hgg

theorem owns_base {w : World} {base base' : Nat} {e : TypeId} {size : Nat} {v : Value} {n : Nat} {xs : List Value} (h : w.ownsRow base e size v n xs) (hb : ∀ k, v.ownBlock = some k → base' ≤ k) : w.ownsRow base' e size v n xs := by
  refine ⟨h.1, ?_⟩
  rcases h.2 with hn | ⟨g, cap, cur, rfl, _, rest⟩
  · exact .inl hn
  · exact .inr ⟨g, cap, cur, rfl, hb g rfl, rest⟩

section
variable {P : Program} (w : World)

theorem append_block (base : Nat) (t ty e : TypeId) (i : TypeInfo) (z : Value) (size bytes : Nat) (ht : P.underlying t = some (.slice e)) (hi : P.info? e = some i) (hz : i.zero = some z)
    (hsize : i.size = size) (hby : i.bytes = bytes) (hzs : z.cells.size = size) (hsz : 0 < size)
    (v : Value) (n : Nat) (xs : List Value) (hown : w.ownsRow base e size v n xs)
    (a : Addr) (m c : Nat) (news : List Value) (hl : news.length = m * size) (hnews : ∀ j u, news[j]? = some u → w.cell? (a.add j) = some u) (h1 : ∀ u ∈ news, u.oneCell' = true)
    (h63 : n + m ≤ maxLen) (hbytes : (n + m) * bytes ≤ 140737488355328) {v' : Value} {w' : World}
    (hr : (Builtin.append_ #[t, t] ty #[v, .slice (some a) m c]).run P w = .ok v' w') : ∀ g, v'.ownBlock = some g → v.ownBlock = some g ∨ w.heap.size ≤ g := by
  intro g hg
  have hown' := hown
  rcases hown.2 with ⟨rfl, rfl⟩ | ⟨g0, cap, cur, rfl, hb, hgg, rest⟩
  · have hx : xs = [] := List.eq_nil_of_length_eq_zero (by simpa using hown.1)
    subst hx
    obtain ⟨v2, w2, r1, r2, _⟩ := run_append_own (P := P) w w.heap.size t ty e i z size bytes ht hi hz hsize hby hzs hsz (.slice none 0 0) 0 [] (World.ownsRow_nil _ _ _ _) a m c news hl hnews h1 h63 hbytes (Nat.le_refl _)
    rw [hr] at r1
    cases r1
    exact .inr (r2.lt g hg).1
  · by_cases hroom : n + m ≤ cap
    · obtain ⟨w2, r1, _⟩ := run_append_fits (P := P) w base t ty e i size ht hi hsize g0 n cap xs hown' a m c news hl hnews h1 hroom
      rw [hr] at r1
      cases r1
      exact .inl hg
    · obtain ⟨v2, w2, r1, r2, _⟩ := run_append_arg_grows (P := P) w t ty e i z size bytes ht hi hz hsize hby hzs hsz ⟨g0, 0, none⟩ n cap xs hown'.1 (hown'.cells rfl) a m c news hl hnews (by omega) h63 hbytes
      rw [hr] at r1
      cases r1
      exact .inr (r2.lt g hg).1

/-- 'wpList_append_own', AND WHERE THE NEW VALUE LIES. -/
theorem wpList_append_mine {ops : Array Oper} {rest : List Oper} {o : Oper} {a : Act} {Q : Exit → Act → World → Prop} (hgd : o.guard = none) (s x : Operand) (t : TypeId)
    (ho : o.op = .call { callee := .builtin .append, args := #[s, x], argTypes := #[t, t] })
    (base : Nat) (e : TypeId) (i : TypeInfo) (z : Value) (size bytes : Nat) (ht : P.underlying t = some (.slice e)) (hi : P.info? e = some i) (hz : i.zero = some z)
    (hsize : i.size = size) (hby : i.bytes = bytes) (hzs : z.cells.size = size) (hsz : 0 < size)
    (v : Value) (n : Nat) (xs : List Value) (hs : a.eval s = v) (hown : w.ownsRow base e size v n xs)
    (ad : Addr) (m c : Nat) (news : List Value) (hx : a.eval x = .slice (some ad) m c) (hl : news.length = m * size) (hnews : ∀ j u, news[j]? = some u → w.cell? (ad.add j) = some u) (h1 : ∀ u ∈ news, u.oneCell' = true)
    (h63 : n + m ≤ maxLen) (hbytes : (n + m) * bytes ≤ 140737488355328) (hbase : base ≤ w.heap.size)
    (h : ∀ v' w', w'.ownsRow base e size v' (n + m) (xs ++ news) → w.grownBy w' v.ownBlock → (∀ g, v'.ownBlock = some g → v.ownBlock = some g ∨ w.heap.size ≤ g) → wpList P ops Q rest (a.put o.dst v') w') :
    wpList P ops Q (o :: rest) a w := by
  refine wpList_plain hgd fun K hK' => ?_
  obtain ⟨v', w', hr, h2, h3, h4⟩ := run_append_own (P := P) w base t o.type e i z size bytes ht hi hz hsize hby hzs hsz v n xs hown ad m c news hl hnews h1 h63 hbytes hbase
  have h5 := append_block (P := P) w base t o.type e i z size bytes ht hi hz hsize hby hzs hsz v n xs hown ad m c news hl hnews h1 h63 hbytes hr
  unfold Oper.wp execOp
  simp only [ho, resolve, invoke, builtin, Sem.run_bind, Sem.run_pure, Result.andThen_ok, List.map_toArray, List.map_cons, List.map_nil, hs, hx, hr]
  exact hK' _ _ (h v' w' h2 h3 h5)
end
end Go.Proofs.Qxb6601483aMods
