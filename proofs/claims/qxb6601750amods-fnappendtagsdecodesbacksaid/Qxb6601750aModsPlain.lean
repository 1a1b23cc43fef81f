/-
  NO GO PROGRAM HERE. What appendTags writes, as lists of numbers.
-/
import Derived.WalkKit
import Derived.Deep.AppendSrc
namespace Go.Proofs.Qxb6601750aMods

/-- The bytes of a string. -/
def bs (s : ByteArray) : List Int := s.data.toList.map fun b => (b.toNat : Int)
theorem byteCells_bs (s : ByteArray) : byteCells s = (bs s).map (Value.int .u8) := by simp [byteCells, bs]
theorem bs_length (s : ByteArray) : (bs s).length = s.size := by simp [bs]
theorem bs_range (s : ByteArray) : ∀ c ∈ bs s, 0 ≤ c ∧ c < 256 := by
  intro c hc
  obtain ⟨b, _, rfl⟩ := List.mem_map.1 hc
  have := b.toNat_lt
  omega
theorem bs_getElem (s : ByteArray) (i : Nat) (h : i < s.size) : (bs s)[i]'(by rw [bs_length]; exact h) = (s[i].toNat : Int) := by
  simp [bs, ByteArray.getElem_eq_getElem_data]
theorem bs_extract (s : ByteArray) (i j : Nat) : bs (s.extract i j) = ((bs s).take j).drop i := by
  simp [bs, ByteArray.data_extract, List.extract_eq_take_drop, List.map_take, List.map_drop, List.drop_take]

/-- One lower-case hex digit. -/
def hexd (d : Int) : Int := if d < 10 then 48 + d else 97 + d - 10
/-- How one byte stands in a JSON string. -/
def esc (c : Int) : List Int :=
  if c = 34 then [92, 34] else if c = 92 then [92, 92] else if c = 10 then [92, 110] else if c = 13 then [92, 114] else if c = 9 then [92, 116]
  else if c < 32 then [92, 117, 48, 48, hexd (c / 16), hexd (c % 16)] else [c]
theorem esc_len (c : Int) : (esc c).length ≤ 6 := by
  unfold esc; (repeat' split) <;> simp
theorem esc_plain (c : Int) (h1 : 32 ≤ c) (h2 : c ≠ 34) (h3 : c ≠ 92) : esc c = [c] := by
  unfold esc
  rw [if_neg h2, if_neg h3, if_neg (by omega), if_neg (by omega), if_neg (by omega), if_neg (by omega)]
theorem flat_esc_len : ∀ l : List Int, (l.flatMap esc).length ≤ 6 * l.length
  | [] => by simp
  | c :: r => by
    have h1 := flat_esc_len r
    have h2 := esc_len c
    simp only [List.flatMap_cons, List.length_append, List.length_cons]
    omega
theorem flat_esc_plain : ∀ l : List Int, (∀ c ∈ l, 32 ≤ c ∧ c ≠ 34 ∧ c ≠ 92) → l.flatMap esc = l
  | [], _ => rfl
  | c :: r, h => by
    obtain ⟨h1, h2, h3⟩ := h c (by simp)
    rw [List.flatMap_cons, esc_plain c h1 h2 h3, flat_esc_plain r (fun x hx => h x (by simp [hx]))]
    rfl
/-- A JSON string. -/
def jtext (l : List Int) : List Int := 34 :: (l.flatMap esc ++ [34])
theorem jtext_len (l : List Int) : (jtext l).length ≤ 6 * l.length + 2 := by
  have := flat_esc_len l
  simp only [jtext, List.length_cons, List.length_append, List.length_nil]; omega

/-- A tag: key, value, is it the bool true? -/
abbrev TagV := ByteArray × ByteArray × Bool
def kKey : ByteArray := ⟨#[123, 34, 107, 101, 121, 34, 58]⟩
def kBool : ByteArray := ⟨#[44, 34, 116, 121, 112, 101, 34, 58, 34, 98, 111, 111, 108, 34, 44, 34, 118, 97, 108, 117, 101, 34, 58, 116, 114, 117, 101, 125]⟩
def kStr : ByteArray := ⟨#[44, 34, 116, 121, 112, 101, 34, 58, 34, 115, 116, 114, 105, 110, 103, 34, 44, 34, 118, 97, 108, 117, 101, 34, 58]⟩
/-- What stands of a tag behind its key. -/
def tagEnd (t : TagV) : List Int := if t.2.2 then bs kBool else bs kStr ++ jtext (bs t.2.1) ++ [125]
/-- A tag's object. -/
def tagJ (t : TagV) : List Int := bs kKey ++ jtext (bs t.1) ++ tagEnd t
/-- The objects, parted by commas. -/
def body : List TagV → List Int
  | [] => []
  | t :: r => tagJ t ++ r.flatMap fun t => 44 :: tagJ t
theorem body_snoc (l : List TagV) (t : TagV) : body (l ++ [t]) = body l ++ (if l.length = 0 then [] else [44]) ++ tagJ t := by
  cases l with
  | nil => simp [body]
  | cons a r => simp [body]
/-- The bytes of all keys and values. -/
def sumT (T : List TagV) : Nat := (T.map fun t => t.1.size + t.2.1.size).sum
theorem tagJ_len (t : TagV) : (tagJ t).length ≤ 6 * (t.1.size + t.2.1.size) + 64 := by
  have h1 := jtext_len (bs t.1)
  have h2 := jtext_len (bs t.2.1)
  rw [bs_length] at h1 h2
  have k1 : (bs kKey).length = 7 := by rfl
  have k2 : (bs kBool).length = 28 := by rfl
  have k3 : (bs kStr).length = 25 := by rfl
  unfold tagJ tagEnd
  split <;> simp only [List.length_append, k1, k2, k3, List.length_cons, List.length_nil] <;> omega
theorem body_len (T : List TagV) : (body T).length ≤ 6 * sumT T + 65 * T.length := by
  have aux : ∀ r : List TagV, (r.flatMap fun t => 44 :: tagJ t).length ≤ 6 * sumT r + 65 * r.length := by
    intro r
    induction r with
    | nil => simp
    | cons t r ih =>
      have := tagJ_len t
      simp only [List.flatMap_cons, List.length_append, List.length_cons, sumT, List.map_cons, List.sum_cons] at ih ⊢
      omega
  cases T with
  | nil => simp [body]
  | cons t r =>
    have h1 := aux r
    have h2 := tagJ_len t
    simp only [body, List.length_append, List.length_cons, sumT, List.map_cons, List.sum_cons] at h1 ⊢
    omega
/-- The whole array. -/
def tagsJ (T : List TagV) : List Int := 91 :: (body T ++ [93])
end Go.Proofs.Qxb6601750aMods
