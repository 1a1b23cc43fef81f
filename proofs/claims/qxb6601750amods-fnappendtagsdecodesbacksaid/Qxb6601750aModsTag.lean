/-
  decodeTag (17) at a tag's object.
-/
import Derived.Test.Qxb6601750aModsStr
namespace Go.Proofs.Qxb6601750aMods
open Go.ChangeShapes Go.WideShapes Go.ChangeAt Go.RowKit

theorem results_tmp5 {fn : Func} {t u v x y : Tmp} (h : fn.results = #[.tmp t, .tmp u, .tmp v, .tmp x, .tmp y]) (tmps : Array Value) (P : Program) (w : World) :
    (results fn tmps).run P w = .ok (.tuple #[tmps.getD t undef, tmps.getD u undef, tmps.getD v undef, tmps.getD x undef, tmps.getD y undef]) w := by
  simp [results, h]

theorem bool_split : bs kBool = bs ⟨#[44, 34, 116, 121, 112, 101, 34, 58]⟩ ++ (jtext (bs ⟨#[98, 111, 111, 108]⟩) ++ bs ⟨#[44, 34, 118, 97, 108, 117, 101, 34, 58, 116, 114, 117, 101, 125]⟩) := by rfl
theorem str_split : bs kStr = bs ⟨#[44, 34, 116, 121, 112, 101, 34, 58]⟩ ++ (jtext (bs ⟨#[115, 116, 114, 105, 110, 103]⟩) ++ bs ⟨#[44, 34, 118, 97, 108, 117, 101, 34, 58]⟩) := by rfl

/-- What expectText answers where the text stands: the next place. -/
def Next2 (w : World) (q : Nat) (e : Ending) (w' : World) : Prop := e = .returned (.tuple #[.int .i64 (q : Int), .bool true]) ∧ Below w.heap.size w w'
def Next3 (w : World) (s : ByteArray) (q : Nat) (e : Ending) (w' : World) : Prop := e = .returned (.tuple #[.string s, .int .i64 (q : Int), .bool true]) ∧ Below w.heap.size w w'

theorem f21_to (g c : Nat) (zs r : List Int) (p q : Nat) (s : ByteArray) (w : World) (hg : GotIn w g zs) (ha : At zs p (bs s ++ r)) (hl : zs.length ≤ 1000000000000) (hq : q = p + s.size) :
    Calls Trym.prog 21 #[.slice (some ⟨g, 0, none⟩) zs.length c, .int .i64 (p : Int), .string s] w (Next2 w q) ∧ At zs q r := by
  subst hq
  constructor
  · refine (f21_any g c zs r p s w hg ha hl).mono ?_
    rintro e w' ⟨rfl, hb⟩
    exact ⟨by rw [Int.natCast_add], hb⟩
  · have := ha.step
    rwa [bs_length] at this
theorem f22_to (g c : Nat) (zs r : List Int) (p q : Nat) (s : ByteArray) (w : World) (hg : GotIn w g zs) (ha : At zs p (jtext (bs s) ++ r)) (hl : zs.length ≤ 1000000000000) (hs : s.size ≤ 1048576) (hq : q = p + (jtext (bs s)).length) :
    Calls Trym.prog 22 #[.slice (some ⟨g, 0, none⟩) zs.length c, .int .i64 (p : Int)] w (Next3 w s q) ∧ At zs q r := by
  subst hq
  constructor
  · refine (f22_any g c zs r p s w hg ha hl hs).mono ?_
    rintro e w' ⟨rfl, hb⟩
    exact ⟨by rw [Int.natCast_add], hb⟩
  · exact ha.step

/-- What decodeTag answers at a tag's object. -/
def TagRead (w : World) (t : TagV) (q : Nat) (e : Ending) (w' : World) : Prop :=
  e = .returned (.tuple #[.string t.1, .string (if t.2.2 then ⟨#[]⟩ else t.2.1), .bool t.2.2, .int .i64 (q : Int), .bool true]) ∧ Below w.heap.size w w'

set_option maxRecDepth 100000 in
set_option maxHeartbeats 2000000 in
/-- decodeTag at a bool. -/
theorem f17_bool (g c : Nat) (zs r : List Int) (p q : Nat) (ks vs : ByteArray) (w : World) (hg : GotIn w g zs) (ha : At zs p (tagJ (ks, vs, true) ++ r)) (hl : zs.length ≤ 1000000000000) (hk : ks.size ≤ 1048576) (hq : q = p + (tagJ (ks, vs, true)).length) :
    Calls Trym.prog 17 #[.slice (some ⟨g, 0, none⟩) zs.length c, .int .i64 (p : Int)] w (TagRead w (ks, vs, true) q) := by
  have e0 : tagJ (ks, vs, true) ++ r = bs kKey ++ (jtext (bs ks) ++ (bs ⟨#[44, 34, 116, 121, 112, 101, 34, 58]⟩ ++ (jtext (bs ⟨#[98, 111, 111, 108]⟩) ++ (bs ⟨#[44, 34, 118, 97, 108, 117, 101, 34, 58, 116, 114, 117, 101, 125]⟩ ++ r)))) := by
    unfold tagJ tagEnd
    rw [if_pos rfl, bool_split]
    simp only [List.append_assoc]
  have el : (tagJ (ks, vs, true)).length = 7 + (jtext (bs ks)).length + 8 + 6 + 14 := by
    have := congrArg List.length e0
    simp only [List.length_append, kKey_len] at this
    have h1 : (bs ⟨#[44, 34, 116, 121, 112, 101, 34, 58]⟩).length = 8 := rfl
    have h2 : (jtext (bs ⟨#[98, 111, 111, 108]⟩)).length = 6 := rfl
    have h3 : (bs ⟨#[44, 34, 118, 97, 108, 117, 101, 34, 58, 116, 114, 117, 101, 125]⟩).length = 14 := rfl
    omega
  rw [e0] at ha
  obtain ⟨p1, hp1⟩ : ∃ p1, p1 = p + kKey.size := ⟨_, rfl⟩
  obtain ⟨p2, hp2⟩ : ∃ p2, p2 = p1 + (jtext (bs ks)).length := ⟨_, rfl⟩
  obtain ⟨p3, hp3⟩ : ∃ p3, p3 = p2 + (⟨#[44, 34, 116, 121, 112, 101, 34, 58]⟩ : ByteArray).size := ⟨_, rfl⟩
  obtain ⟨p4, hp4⟩ : ∃ p4, p4 = p3 + (jtext (bs ⟨#[98, 111, 111, 108]⟩)).length := ⟨_, rfl⟩
  have hq5 : q = p4 + (⟨#[44, 34, 118, 97, 108, 117, 101, 34, 58, 116, 114, 117, 101, 125]⟩ : ByteArray).size := by
    have h1 : kKey.size = 7 := rfl
    have h2 : (jtext (bs ⟨#[98, 111, 111, 108]⟩)).length = 6 := rfl
    have h3 : (⟨#[44, 34, 118, 97, 108, 117, 101, 34, 58, 116, 114, 117, 101, 125]⟩ : ByteArray).size = 14 := rfl
    have h4 : (⟨#[44, 34, 116, 121, 112, 101, 34, 58]⟩ : ByteArray).size = 8 := rfl
    omega
  obtain ⟨K1, a1⟩ := f21_to g c zs _ p p1 kKey w hg ha hl hp1
  have G : Hid (∀ w', Below w.heap.size w w' → GotIn w' g zs) := fun w' h => hg.below h hg.1
  have C2 : Hid (∀ w', GotIn w' g zs → Calls Trym.prog 22 #[.slice (some ⟨g, 0, none⟩) zs.length c, .int .i64 (p1 : Int)] w' (Next3 w' ks p2)) := fun w' h => (f22_to g c zs _ p1 p2 ks w' h a1 hl hk hp2).1
  have a2 := (f22_to g c zs _ p1 p2 ks w hg a1 hl hk hp2).2
  have C3 : Hid (∀ w', GotIn w' g zs → Calls Trym.prog 21 #[.slice (some ⟨g, 0, none⟩) zs.length c, .int .i64 (p2 : Int), .string ⟨#[44, 34, 116, 121, 112, 101, 34, 58]⟩] w' (Next2 w' p3)) := fun w' h => (f21_to g c zs _ p2 p3 _ w' h a2 hl hp3).1
  have a3 := (f21_to g c zs _ p2 p3 _ w hg a2 hl hp3).2
  have C4 : Hid (∀ w', GotIn w' g zs → Calls Trym.prog 22 #[.slice (some ⟨g, 0, none⟩) zs.length c, .int .i64 (p3 : Int)] w' (Next3 w' ⟨#[98, 111, 111, 108]⟩ p4)) := fun w' h => (f22_to g c zs _ p3 p4 _ w' h a3 hl (by decide) hp4).1
  have a4 := (f22_to g c zs _ p3 p4 _ w hg a3 hl (by decide) hp4).2
  have C5 : Hid (∀ w', GotIn w' g zs → Calls Trym.prog 21 #[.slice (some ⟨g, 0, none⟩) zs.length c, .int .i64 (p4 : Int), .string ⟨#[44, 34, 118, 97, 108, 117, 101, 34, 58, 116, 114, 117, 101, 125]⟩] w' (Next2 w' q)) := fun w' h => (f21_to g c zs _ p4 q _ w' h a4 hl hq5).1
  have C1 : Hid (Calls Trym.prog 21 #[.slice (some ⟨g, 0, none⟩) zs.length c, .int .i64 (p : Int), .string ⟨#[123, 34, 107, 101, 121, 34, 58]⟩] w (Next2 w p1)) := K1
  obtain ⟨n, hn⟩ : ∃ n, n = zs.length := ⟨_, rfl⟩
  rw [← hn] at C1 C2 C3 C4 C5 ⊢
  clear K1 a1 a2 a3 a4 hq5 hp1 hp2 hp3 hp4 hq e0 el ha hg hl hk hn
  go_enter Trym.func17, Trym.ntmps17
  go_wp2_with fail
  refine Calls.mono C1.out ?_
  rintro e w1 ⟨rfl, b1⟩
  go_wp2_with fail
  refine Calls.mono (C2.out w1 (G.out w1 b1)) ?_
  rintro e w2 ⟨rfl, b2⟩
  have b02 := below_trans b1 (below_less b2 b1.size)
  go_wp2_with fail
  refine Calls.mono (C3.out w2 (G.out w2 b02)) ?_
  rintro e w3 ⟨rfl, b3⟩
  have b03 := below_trans b02 (below_less b3 b02.size)
  go_wp2_with fail
  refine Calls.mono (C4.out w3 (G.out w3 b03)) ?_
  rintro e w4 ⟨rfl, b4⟩
  have b04 := below_trans b03 (below_less b4 b03.size)
  go_wp2_with fail
  refine Calls.mono (C5.out w4 (G.out w4 b04)) ?_
  rintro e w5 ⟨rfl, b5⟩
  have b05 := below_trans b04 (below_less b5 b04.size)
  go_wp2_with fail
  (try simp only [Exit.inBlock, Exit.then]); refine bodyPost_ret (results_tmp5 rfl _ _ _) rfl ?_
  exact ⟨rfl, b05⟩

set_option maxRecDepth 100000 in
set_option maxHeartbeats 2000000 in
/-- decodeTag at a string. -/
theorem f17_str (g c : Nat) (zs r : List Int) (p q : Nat) (ks vs : ByteArray) (w : World) (hg : GotIn w g zs) (ha : At zs p (tagJ (ks, vs, false) ++ r)) (hl : zs.length ≤ 1000000000000) (hk : ks.size ≤ 1048576) (hv : vs.size ≤ 1048576) (hq : q = p + (tagJ (ks, vs, false)).length) :
    Calls Trym.prog 17 #[.slice (some ⟨g, 0, none⟩) zs.length c, .int .i64 (p : Int)] w (TagRead w (ks, vs, false) q) := by
  have e0 : tagJ (ks, vs, false) ++ r = bs kKey ++ (jtext (bs ks) ++ (bs ⟨#[44, 34, 116, 121, 112, 101, 34, 58]⟩ ++ (jtext (bs ⟨#[115, 116, 114, 105, 110, 103]⟩) ++ (bs ⟨#[44, 34, 118, 97, 108, 117, 101, 34, 58]⟩ ++ (jtext (bs vs) ++ (bs ⟨#[125]⟩ ++ r)))))) := by
    unfold tagJ tagEnd
    rw [if_neg (by simp), str_split]
    have h : bs ⟨#[125]⟩ = [125] := rfl
    rw [h]
    simp only [List.append_assoc]
  have el : (tagJ (ks, vs, false)).length = 7 + (jtext (bs ks)).length + 8 + 8 + 9 + (jtext (bs vs)).length + 1 := by
    have := congrArg List.length e0
    simp only [List.length_append, kKey_len] at this
    have h1 : (bs ⟨#[44, 34, 116, 121, 112, 101, 34, 58]⟩).length = 8 := rfl
    have h2 : (jtext (bs ⟨#[115, 116, 114, 105, 110, 103]⟩)).length = 8 := rfl
    have h3 : (bs ⟨#[44, 34, 118, 97, 108, 117, 101, 34, 58]⟩).length = 9 := rfl
    have h4 : (bs ⟨#[125]⟩).length = 1 := rfl
    omega
  rw [e0] at ha
  obtain ⟨p1, hp1⟩ : ∃ p1, p1 = p + kKey.size := ⟨_, rfl⟩
  obtain ⟨p2, hp2⟩ : ∃ p2, p2 = p1 + (jtext (bs ks)).length := ⟨_, rfl⟩
  obtain ⟨p3, hp3⟩ : ∃ p3, p3 = p2 + (⟨#[44, 34, 116, 121, 112, 101, 34, 58]⟩ : ByteArray).size := ⟨_, rfl⟩
  obtain ⟨p4, hp4⟩ : ∃ p4, p4 = p3 + (jtext (bs ⟨#[115, 116, 114, 105, 110, 103]⟩)).length := ⟨_, rfl⟩
  obtain ⟨p5, hp5⟩ : ∃ p5, p5 = p4 + (⟨#[44, 34, 118, 97, 108, 117, 101, 34, 58]⟩ : ByteArray).size := ⟨_, rfl⟩
  obtain ⟨p6, hp6⟩ : ∃ p6, p6 = p5 + (jtext (bs vs)).length := ⟨_, rfl⟩
  have hq7 : q = p6 + (⟨#[125]⟩ : ByteArray).size := by
    have h1 : kKey.size = 7 := rfl
    have h2 : (jtext (bs ⟨#[115, 116, 114, 105, 110, 103]⟩)).length = 8 := rfl
    have h3 : (⟨#[44, 34, 118, 97, 108, 117, 101, 34, 58]⟩ : ByteArray).size = 9 := rfl
    have h4 : (⟨#[44, 34, 116, 121, 112, 101, 34, 58]⟩ : ByteArray).size = 8 := rfl
    have h5 : (⟨#[125]⟩ : ByteArray).size = 1 := rfl
    omega
  obtain ⟨K1, a1⟩ := f21_to g c zs _ p p1 kKey w hg ha hl hp1
  have G : Hid (∀ w', Below w.heap.size w w' → GotIn w' g zs) := fun w' h => hg.below h hg.1
  have C2 : Hid (∀ w', GotIn w' g zs → Calls Trym.prog 22 #[.slice (some ⟨g, 0, none⟩) zs.length c, .int .i64 (p1 : Int)] w' (Next3 w' ks p2)) := fun w' h => (f22_to g c zs _ p1 p2 ks w' h a1 hl hk hp2).1
  have a2 := (f22_to g c zs _ p1 p2 ks w hg a1 hl hk hp2).2
  have C3 : Hid (∀ w', GotIn w' g zs → Calls Trym.prog 21 #[.slice (some ⟨g, 0, none⟩) zs.length c, .int .i64 (p2 : Int), .string ⟨#[44, 34, 116, 121, 112, 101, 34, 58]⟩] w' (Next2 w' p3)) := fun w' h => (f21_to g c zs _ p2 p3 _ w' h a2 hl hp3).1
  have a3 := (f21_to g c zs _ p2 p3 _ w hg a2 hl hp3).2
  have C4 : Hid (∀ w', GotIn w' g zs → Calls Trym.prog 22 #[.slice (some ⟨g, 0, none⟩) zs.length c, .int .i64 (p3 : Int)] w' (Next3 w' ⟨#[115, 116, 114, 105, 110, 103]⟩ p4)) := fun w' h => (f22_to g c zs _ p3 p4 _ w' h a3 hl (by decide) hp4).1
  have a4 := (f22_to g c zs _ p3 p4 _ w hg a3 hl (by decide) hp4).2
  have C5 : Hid (∀ w', GotIn w' g zs → Calls Trym.prog 21 #[.slice (some ⟨g, 0, none⟩) zs.length c, .int .i64 (p4 : Int), .string ⟨#[44, 34, 118, 97, 108, 117, 101, 34, 58]⟩] w' (Next2 w' p5)) := fun w' h => (f21_to g c zs _ p4 p5 _ w' h a4 hl hp5).1
  have a5 := (f21_to g c zs _ p4 p5 _ w hg a4 hl hp5).2
  have C6 : Hid (∀ w', GotIn w' g zs → Calls Trym.prog 22 #[.slice (some ⟨g, 0, none⟩) zs.length c, .int .i64 (p5 : Int)] w' (Next3 w' vs p6)) := fun w' h => (f22_to g c zs _ p5 p6 _ w' h a5 hl hv hp6).1
  have a6 := (f22_to g c zs _ p5 p6 _ w hg a5 hl hv hp6).2
  have C7 : Hid (∀ w', GotIn w' g zs → Calls Trym.prog 21 #[.slice (some ⟨g, 0, none⟩) zs.length c, .int .i64 (p6 : Int), .string ⟨#[125]⟩] w' (Next2 w' q)) := fun w' h => (f21_to g c zs _ p6 q _ w' h a6 hl hq7).1
  have C1 : Hid (Calls Trym.prog 21 #[.slice (some ⟨g, 0, none⟩) zs.length c, .int .i64 (p : Int), .string ⟨#[123, 34, 107, 101, 121, 34, 58]⟩] w (Next2 w p1)) := K1
  obtain ⟨n, hn⟩ : ∃ n, n = zs.length := ⟨_, rfl⟩
  rw [← hn] at C1 C2 C3 C4 C5 C6 C7 ⊢
  clear K1 a1 a2 a3 a4 a5 a6 hq7 hp1 hp2 hp3 hp4 hp5 hp6 hq e0 el ha hg hl hk hv hn
  go_enter Trym.func17, Trym.ntmps17
  go_wp2_with fail
  refine Calls.mono C1.out ?_
  rintro e w1 ⟨rfl, b1⟩
  go_wp2_with fail
  refine Calls.mono (C2.out w1 (G.out w1 b1)) ?_
  rintro e w2 ⟨rfl, b2⟩
  have b02 := below_trans b1 (below_less b2 b1.size)
  go_wp2_with fail
  refine Calls.mono (C3.out w2 (G.out w2 b02)) ?_
  rintro e w3 ⟨rfl, b3⟩
  have b03 := below_trans b02 (below_less b3 b02.size)
  go_wp2_with fail
  refine Calls.mono (C4.out w3 (G.out w3 b03)) ?_
  rintro e w4 ⟨rfl, b4⟩
  have b04 := below_trans b03 (below_less b4 b03.size)
  go_wp2_with fail
  refine Calls.mono (C5.out w4 (G.out w4 b04)) ?_
  rintro e w5 ⟨rfl, b5⟩
  have b05 := below_trans b04 (below_less b5 b04.size)
  go_wp2_with fail
  refine Calls.mono (C6.out w5 (G.out w5 b05)) ?_
  rintro e w6 ⟨rfl, b6⟩
  have b06 := below_trans b05 (below_less b6 b05.size)
  go_wp2_with fail
  refine Calls.mono (C7.out w6 (G.out w6 b06)) ?_
  rintro e w7 ⟨rfl, b7⟩
  have b07 := below_trans b06 (below_less b7 b06.size)
  go_wp2_with fail
  (try simp only [Exit.inBlock, Exit.then]); refine bodyPost_ret (results_tmp5 rfl _ _ _) rfl ?_
  exact ⟨rfl, b07⟩

/-- decodeTag at whatever tag. -/
theorem f17_any (g c : Nat) (zs r : List Int) (p q : Nat) (t : TagV) (w : World) (hg : GotIn w g zs) (ha : At zs p (tagJ t ++ r)) (hl : zs.length ≤ 1000000000000) (hk : t.1.size + t.2.1.size ≤ 1048576) (hq : q = p + (tagJ t).length) :
    Calls Trym.prog 17 #[.slice (some ⟨g, 0, none⟩) zs.length c, .int .i64 (p : Int)] w (TagRead w t q) := by
  obtain ⟨ks, vs, b⟩ := t
  simp only at hk
  cases b with
  | true => exact f17_bool g c zs r p q ks vs w hg ha hl (by omega) hq
  | false => exact f17_str g c zs r p q ks vs w hg ha hl (by omega) (by omega) hq
end Go.Proofs.Qxb6601750aMods
