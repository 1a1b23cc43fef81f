/-
  zzRender (9), IsID (7), FnIsIDAcceptsEveryRendering (4).
-/
import Derived.Test.Qxb6602064aModsRows
import Derived.Test.Qxb6602064aModsOwn
import Derived.WalkKit
import Derived.WalkSpells
import Derived.WalkLawsBesides
import Derived.ProofKit
import Derived.Deep.DeepCutAuto
import Derived.RegionTactic
import Derived.Laws.IdiomStrings
import Derived.Laws.BytesArg
import Derived.Deep.MidRow
namespace Go.Proofs.Qxb6602064aMods
open Go.ChangeShapes Go.WideShapes Go.ChangeAt Go.RowKit

theorem Trym.info5 : (Trym.prog.info? 5).map (fun i => (i.zero, i.size, i.bytes)) = some (some (.int .u8 0), 1, 1) := by kernel_rfl
/-- The bytes of a string. -/
def bs (s : ByteArray) : List Int := s.data.toList.map fun b => (b.toNat : Int)
theorem byteCells_bs (s : ByteArray) : byteCells s = (bs s).map (Value.int .u8) := by simp [byteCells, bs]
theorem bs_length (s : ByteArray) : (bs s).length = s.size := by simp [bs]
theorem bs_range (s : ByteArray) : ∀ c ∈ bs s, 0 ≤ c ∧ c < 256 := by
  intro c hc
  obtain ⟨b, _, rfl⟩ := List.mem_map.1 hc
  have := b.toNat_lt
  omega
theorem bs_getElem (s : ByteArray) (i : Nat) (h : i < s.size) : (bs s)[i]'(by rw [bs_length]; exact h) = (s[i].toNat : Int) := by
  simp [bs, ByteArray.getElem_eq_getElem_data]
theorem bs_extract (s : ByteArray) (i j : Nat) : bs (s.extract i j) = ((bs s).take j).drop i := by
  simp [bs, ByteArray.data_extract, List.extract_eq_take_drop, List.map_take, List.map_drop, List.drop_take]

/-- One lower-case hex digit. -/
def hexd (d : Int) : Int := if d < 10 then 48 + d else 97 + d - 10
/-- From w0 to w a row v of bytes xs has grown: of the elder blocks only those of S have turned. -/
structure Own (S : Nat → Prop) (w0 w : World) (v : Value) (xs : List Int) : Prop where
  own : w.ownsRow 0 5 1 v xs.length (xs.map (Value.int .u8))
  grew : Grew w0 w S
  inS : ∀ k, v.ownBlock = some k → S k
  new : ∀ k, w0.heap.size ≤ k → S k
/-- A call answers such a row. -/
def App (S : Nat → Prop) (w0 : World) (ys : List Int) (e : Ending) (w' : World) : Prop := ∃ v', e = .returned v' ∧ Own S w0 w' v' ys

theorem Own.alloc {S : Nat → Prop} {w0 w : World} {v : Value} {xs : List Int} (h : Own S w0 w v xs) (o : Obj) : Own S w0 (w.alloc o) v xs :=
  ⟨h.own.alloc _, h.grew.alloc _, h.inS, h.new⟩
theorem Own.drew {S : Nat → Prop} {w0 w : World} {v : Value} {xs : List Int} (h : Own S w0 w v xs) : Own S w0 w.drew v xs :=
  ⟨h.own, h.grew.drew, h.inS, h.new⟩

theorem wp_own {S : Nat → Prop} {w0 w : World} {o : Oper} {a : Act} {K : Act → World → Prop} {Q : Exit → Act → World → Prop} (s x : Operand) (tx : TypeId)
    (ho : o.op = .call { callee := .builtin .append, args := #[s, x], argTypes := #[29, tx] })
    (v : Value) (xs : List Int) (hv : a.eval s = v) (H : Own S w0 w v xs) (u : Value) (m : Nat) (new : List Int) (hx : a.eval x = u) (hs : Src Trym.prog 1 tx u m (new.map (Value.int .u8)) w)
    (hb : xs.length + new.length ≤ 1000000000000)
    (h : ∀ v' w', Own S w0 w' v' (xs ++ new) → K (a.put o.dst v') w') : o.wp Trym.prog a w K Q := by
  obtain ⟨i0, hi, hz0, hz1, hz2⟩ := info_parts Trym.info5
  have hm : new.length = m := by simpa using hs.newsLen
  subst hm
  refine wp_append_src w s x 29 tx ho 5 i0 (.int .u8 0) 1 Trym.underlying29 hi hz0 hz1 hz2 rfl v xs.length _ hv H.own u _ _ hx hs (by unfold maxLen; omega) (by omega) ?_
  intro v' w' h1 h2 h3
  refine h v' w' ⟨by simpa using h1, H.grew.grown h2 H.inS, fun k hk => ?_, H.new⟩
  rcases h3 k hk with h | h
  · exact H.inS k h
  · exact H.new k (Nat.le_trans H.grew.size h)
theorem wpList_own {S : Nat → Prop} {w0 w : World} {ops : Array Oper} {rest : List Oper} {o : Oper} {a : Act} {Q : Exit → Act → World → Prop} (hgd : o.guard = none) (s x : Operand) (tx : TypeId)
    (ho : o.op = .call { callee := .builtin .append, args := #[s, x], argTypes := #[29, tx] })
    (v : Value) (xs : List Int) (hv : a.eval s = v) (H : Own S w0 w v xs) (u : Value) (m : Nat) (new : List Int) (hx : a.eval x = u) (hs : Src Trym.prog 1 tx u m (new.map (Value.int .u8)) w)
    (hb : xs.length + new.length ≤ 1000000000000)
    (h : ∀ v' w', Own S w0 w' v' (xs ++ new) → wpList Trym.prog ops Q rest (a.put o.dst v') w') : wpList Trym.prog ops Q (o :: rest) a w :=
  wpList_plain hgd fun _ hK => wp_own s x tx ho v xs hv H u m new hx hs hb fun v' w' h1 => hK _ _ (h v' w' h1)
theorem cells_new (w : World) (t : TypeId) (vs : List Value) : ∀ j u, vs[j]? = some u → (w.alloc (.cells vs.toArray t)).cell? ((⟨w.heap.size, 0, none⟩ : Addr).add j) = some u := by
  intro j u hj
  rw [add_plain, Nat.zero_add]
  simp [hj]
/-- The bytes of a slice that was just built. -/
theorem src_new (w : World) (t : TypeId) (new : List Int) (n : Nat) (hn : n = new.length) : Src Trym.prog 1 29 (.slice (some ⟨w.heap.size, 0, none⟩) n n) n (new.map (Value.int .u8)) (w.alloc (.cells (new.map (Value.int .u8)).toArray t)) := by
  subst hn
  exact Src.ofSlice _ Trym.underlying29 _ _ _ _ (by simp) (cells_new w t _) (by simp [Value.oneCell'])

theorem run_make29 : ∃ bc : Array Value, bc.size = 36 ∧ ∀ w, (Instr.makeSlice 29 (.int .i64 0) (.int .i64 36)).run Trym.prog w = .ok (.slice (some ⟨w.heap.size, 0, none⟩) 0 36) (w.alloc (.cells bc 5)) := by
  obtain ⟨i0, hi, hz0, hz1, hz2⟩ := info_parts Trym.info5
  refine ⟨madeCells (Value.int .u8 0).cells (36 * 1), size_madeCells _ _, fun w => ?_⟩
  have h := run_make (P := Trym.prog) w 29 5 i0 (.int .u8 0) Trym.underlying29 hi hz0 .i64 .i64 0 36 (by omega) (by omega) (by rw [hz2]; omega) (by omega)
  rw [hz1] at h
  exact h
theorem conv_row {w : World} {B : Nat} {v : Value} {s : ByteArray} (h : w.ownsRow B 5 1 v (bs s).length ((bs s).map (Value.int .u8))) : (convert 29 9 v).run Trym.prog w = .ok (.string s) w := by
  rcases h.2 with ⟨rfl, h0⟩ | ⟨g, cap, cur, rfl, hb, hg, _⟩
  · have e : s = ByteArray.empty := by
      rw [bs_length] at h0
      exact ByteArray.size_eq_zero_iff.1 h0
    subst e
    exact run_convert_bytes_nil w 29 5 Trym.underlying29 Trym.underlying5 0 0 9 Trym.underlying9
  · have hl : (bs s).length = s.data.toList.length := by simp [bs]
    have h1 := run_convert_bytes_back (P := Trym.prog) w 29 9 5 ⟨g, 0, none⟩ cap s.data.toList Trym.underlying29 Trym.underlying5 Trym.underlying9 (fun j hj => by
      rw [add_plain, Nat.zero_add, h.cellAt j (by omega), List.getElem?_map, List.getElem?_eq_getElem (by omega)]
      simp [bs])
    rw [hl]
    simpa using h1

theorem dig_at : ∀ (n : Nat) (h : n < 16), (((⟨#[48, 49, 50, 51, 52, 53, 54, 55, 56, 57, 97, 98, 99, 100, 101, 102]⟩ : ByteArray)[n]'(by exact h)).toNat : Int) = hexd n := by decide
theorem dig (d : Int) (h0 : 0 ≤ d) (h1 : d < 16) (w : World) : ((if _h : 0 ≤ d ∧ d < 16 then
          Result.ok (Value.int IntKind.u8 (((⟨#[48, 49, 50, 51, 52, 53, 54, 55, 56, 57, 97, 98, 99, 100, 101, 102]⟩ : ByteArray)[d.toNat]'(by have : d.toNat < 16 := (by omega); exact this)).toNat)) w
        else Sem.run Trym.prog (boundsPanic IntKind.u8 d 16 BoundsCode.index) w).andThen
      fun a w' => Result.ok (Next.value a) w') = Result.ok (Next.value (.int .u8 (hexd d))) w := by
  rw [dif_pos ⟨h0, h1⟩]
  have e := dig_at d.toNat (by omega)
  rw [Int.toNat_of_nonneg h0] at e
  rw [e]
  rfl
theorem and15 (c : Int) (h0 : 0 ≤ c) (h1 : c < 256) : bits .and .u8 c 15 = c % 16 := by
  have h := u8_and c 15 h0 h1 (by omega) (by omega)
  have h2 : c.toNat &&& (15 : Int).toNat = c.toNat % 16 := Nat.and_two_pow_sub_one_eq_mod c.toNat 4
  rw [h, h2]
  omega

/-- What byte i of the sixteen is written as. -/
def piece (f : Nat → Int) (i : Nat) : List Int := (if i = 4 ∨ i = 6 ∨ i = 8 ∨ i = 10 then [45] else []) ++ [hexd (f i / 16)] ++ [hexd (f i % 16)]
def ren (f : Nat → Int) : Nat → List Int
  | 0 => []
  | k + 1 => ren f k ++ piece f k
/-- What IsID asks of the character at i. -/
def Ok (i : Nat) (c : Int) : Prop := if i = 8 ∨ i = 13 ∨ i = 18 ∨ i = 23 then c = 45 else (48 ≤ c ∧ c ≤ 57) ∨ (97 ≤ c ∧ c ≤ 102)
def AllOk : Nat → List Int → Prop
  | _, [] => True
  | i, c :: r => Ok i c ∧ AllOk (i + 1) r
theorem hexd_ok (d : Int) (h0 : 0 ≤ d) (h1 : d < 16) : (48 ≤ hexd d ∧ hexd d ≤ 57) ∨ (97 ≤ hexd d ∧ hexd d ≤ 102) := by
  unfold hexd; split <;> omega
theorem allOk_get : ∀ (l : List Int) (i : Nat), AllOk i l → ∀ j (h : j < l.length), Ok (i + j) l[j]
  | c :: r, i, h, 0, _ => h.1
  | c :: r, i, h, j + 1, hj => by
    have := allOk_get r (i + 1) h.2 j (by simpa using hj)
    rw [show i + 1 + j = i + (j + 1) by omega] at this
    exact this
theorem ren_ok (f : Nat → Int) (hf : ∀ i, 0 ≤ f i ∧ f i < 256) (l : List Int) (hl : l = ren f 16) : AllOk 0 l := by
  have h1 : ∀ i, (48 ≤ hexd (f i / 16) ∧ hexd (f i / 16) ≤ 57) ∨ (97 ≤ hexd (f i / 16) ∧ hexd (f i / 16) ≤ 102) := fun i => hexd_ok _ (by have := hf i; omega) (by have := hf i; omega)
  have h2 : ∀ i, (48 ≤ hexd (f i % 16) ∧ hexd (f i % 16) ≤ 57) ∨ (97 ≤ hexd (f i % 16) ∧ hexd (f i % 16) ≤ 102) := fun i => hexd_ok _ (by omega) (by omega)
  rw [hl]
  simp [ren, piece, AllOk, Ok, h1, h2]
theorem ren_len (f : Nat → Int) : (ren f 16).length = 36 := by simp [ren, piece]
theorem ren_le (f : Nat → Int) (k : Nat) : (ren f k).length ≤ 3 * k := by
  induction k with
  | zero => simp [ren]
  | succ k ih =>
    simp only [ren, List.length_append, piece]
    split <;> simp <;> omega
end Go.Proofs.Qxb6602064aMods
