/-
  FnIsIDAcceptsEveryRendering (4), and its argument: sixteen bytes by value.
-/
import Derived.Test.Qxb6602064aModsRen
namespace Go.Proofs.Qxb6602064aMods
open Go.ChangeShapes Go.WideShapes Go.ChangeAt Go.RowKit

theorem cells23 : Trym.prog.cellsOf 23 = 16 := by kernel_rfl
theorem cells5 : Trym.prog.cellsOf 5 = 1 := by kernel_rfl
theorem size23 : (Trym.prog.info? 23).map (·.size) = some 16 := by kernel_rfl

/-- What IsID is handed. -/
theorem said_ok (l : List Int) (hl : l.length = 36) (hk : AllOk 0 l) (s : ByteArray) (hb : bs s = l) : s.size = 36 ∧ ∀ j (h : j < s.size), Ok j (s[j].toNat : Int) := by
  subst hb
  have hs : s.size = 36 := by rw [← bs_length, hl]
  refine ⟨hs, fun j h => ?_⟩
  have h1 := allOk_get (bs s) 0 hk j (by rw [hl]; omega)
  rw [Nat.zero_add, bs_getElem s j h] at h1
  exact h1
theorem said_true (f : Nat → Int) (hf : ∀ i, 0 ≤ f i ∧ f i < 256) (w : World) : Calls Trym.prog 7 #[.string (strOf (ren f 16))] w fun e w' => e = .returned (.bool true) ∧ w = w' := by
  have h0 := ren_len f
  have hr := ren_range f hf 16
  obtain ⟨l, hl⟩ : ∃ l, l = ren f 16 := ⟨_, rfl⟩
  rw [← hl] at h0 hr ⊢
  obtain ⟨h1, h2⟩ := said_ok l h0 (ren_ok f hf l hl) (strOf l) (bs_strOf l hr)
  exact f7_any w _ h1 h2

set_option maxRecDepth 100000 in
set_option maxHeartbeats 1000000 in
/-- THE LAW. -/
theorem f4_any (w : World) (cs : List Value) (f : Nat → Int) (hs : cs.length = 16) (hf : ∀ i, 0 ≤ f i ∧ f i < 256) (hA : ∀ i, i < 16 → cs[i]? = some (.int .u8 (f i))) :
    Calls Trym.prog 4 #[.agg cs.toArray] w fun e w' => e = .returned (.bool true) ∧ Below w.heap.size w w' := by
  have HR : Hid (∀ w, Calls Trym.prog 9 #[.agg cs.toArray] w (Rendered f w)) := fun w => f9_any w cs.toArray f hf (by simpa using hA)
  have HI : Hid (∀ w, Calls Trym.prog 7 #[.string (strOf (ren f 16))] w fun e w' => e = .returned (.bool true) ∧ w = w') := said_true f hf
  have HS : Hid ((Trym.prog.info? 23).map (·.size) = some cs.length) := by show _ = _; rw [hs]; exact size23
  have HC : Hid ((w.alloc (.cells cs.toArray 23)).rangeAt w.heap.size 0 cs) := fun j v hj => by simp [hj]
  have HB : Hid (Below w.heap.size w (w.alloc (.cells cs.toArray 23))) := ((Grew.refl w (fun k => w.heap.size ≤ k)).alloc _).below (Nat.le_refl _) (fun k hk h => by omega)
  have hz : (w.alloc (.cells cs.toArray 23)).heap.size = w.heap.size + 1 := by simp
  have HZ : Hid (w.heap.size ≤ (w.alloc (.cells cs.toArray 23)).heap.size) := by show _ ≤ _; omega
  clear hs hf hA hz
  go_enter Trym.func4, Trym.ntmps4
  go_wp2_with (refine wpList_load_mid rfl 23 (.tmp 1) rfl w.heap.size 0 rfl cs _ HC.out Trym.underlying23 rfl HS.out ?_)
  refine Calls.mono (HR.out _) ?_
  rintro e w1 ⟨rfl, hb⟩
  have HB1 : Hid (Below w.heap.size w w1) := HB.out.trans (hb.mono HZ.out)
  clear hb
  go_wp2_with fail
  refine Calls.mono (HI.out _) ?_
  rintro e w2 ⟨rfl, rfl⟩
  go_wp2_with fail
  go_ret
  exact ⟨rfl, HB1.out⟩

section
variable {H : Type} {enc : TypeId × Value → H} {w : World} {base : Nat} {spare : Nat → Bool} {held : Bool}

theorem mapM_all {α β : Type} (g : α → Option β) : ∀ (l : List α) (xs : List β), l.mapM g = some xs → ∀ i ∈ l, ∃ y, g i = some y
  | [], _, _, i, hi => by cases hi
  | a :: l, xs, h, i, hi => by
    rw [List.mapM_cons] at h
    simp only [bind, Option.bind_eq_some_iff, pure, Option.some.injEq] at h
    obtain ⟨y, hy, ys, hys, _⟩ := h
    rcases List.mem_cons.1 hi with rfl | hi
    · exact ⟨y, hy⟩
    · exact mapM_all g l ys hys i hi

/-- THE ARGUMENT: sixteen bytes. -/
theorem arr_of_trod {fuel : Nat} {cs : List Value} {x : DataW H × List MemPlace} (h : DataW.trod enc Trym.prog w base spare held fuel 23 cs = some x) :
    cs.length = 16 ∧ ∃ f : Nat → Int, (∀ i, 0 ≤ f i ∧ f i < 256) ∧ ∀ i, i < 16 → cs[i]? = some (.int .u8 (f i)) := by
  cases fuel with
  | zero => simp [DataW.trod] at h
  | succ m =>
    unfold DataW.trod at h
    rw [Trym.underlying23] at h
    have h2 : (if cs.length = Trym.prog.cellsOf 23 then ((List.range 16).mapM fun i => DataW.trod enc Trym.prog w base spare held m 5 ((cs.drop (i * Trym.prog.cellsOf 5)).take (Trym.prog.cellsOf 5))).map fun xs => (DataW.agg (xs.map (·.1)), xs.flatMap (·.2)) else none) = some x := h
    rw [cells23, cells5] at h2
    split at h2
    · rename_i hl
      refine ⟨hl, ?_⟩
      obtain ⟨xs, hxs, _⟩ := Option.map_eq_some_iff.1 h2
      have h3 : ∀ i, ∃ n : Int, (0 ≤ n ∧ n < 256) ∧ (i < 16 → cs[i]? = some (.int .u8 n)) := fun i => by
        by_cases hi : i < 16
        · obtain ⟨y, hy⟩ := mapM_all _ _ _ hxs i (List.mem_range.2 hi)
          have hi' : i < cs.length := by omega
          rw [Nat.mul_one, List.drop_eq_getElem_cons hi'] at hy
          obtain ⟨n, hn, _, hw⟩ := DataW.trod_int Trym.underlying5 hy
          rw [List.take_succ_cons] at hn
          refine ⟨n, ?_, fun _ => ?_⟩
          · simp only [Lit.wf, IntKind.min, IntKind.max, IntKind.signed, IntKind.bits, Bool.and_eq_true] at hw
            simp at hw
            omega
          · rw [List.getElem?_eq_getElem hi', (List.cons.inj hn).1]
        · exact ⟨0, by omega, fun h => absurd h hi⟩
      obtain ⟨f, hf⟩ := Classical.axiomOfChoice h3
      exact ⟨f, fun i => (hf i).1, fun i => (hf i).2⟩
    · cases h2
end
end Go.Proofs.Qxb6602064aMods
