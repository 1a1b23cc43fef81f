/-
  THE PLAIN LAW of FnAppendCopyDecodesToCanonicalCopies: what appendCopy writes, as lists of numbers; that the strict decoder reads it back. No Go program in sight (the model's own 'bits' alone: what Go's '|' and '&' give).
-/
import Derived.WalkKit
namespace Go.Proofs.Qxb6601483aMods
open Go.RowKit

/-- Byte number k of o, from the lowest on. -/
def bo (o : Int) (k : Nat) : Int := o / 2 ^ (8 * k) % 256
/-- Byte number k of a chunk's size; a whole chunk has none. -/
def szb (n : Int) (k : Nat) : Int := if n = 65536 then 0 else bo n k

/-- The command byte behind k rounds: a bit for each byte that is not zero. -/
def mark (p : Nat → Bool) (s : Nat) (c : Int) : Nat → Int
  | 0 => c
  | k + 1 => if p k then bits .or .u8 (mark p s c k) (2 ^ (s + k) % 256) else mark p s c k
/-- The bytes that are not zero, of the first k. -/
def bytesTo (f : Nat → Int) : Nat → List Int
  | 0 => []
  | k + 1 => if f k != 0 then bytesTo f k ++ [f k] else bytesTo f k
/-- The number that the first k bytes spell. -/
def valTo (f : Nat → Int) : Nat → Int
  | 0 => 0
  | k + 1 => valTo f k + f k * 2 ^ (8 * k)
/-- Is one of the first k not zero? -/
def anyTo (f : Nat → Int) : Nat → Bool
  | 0 => false
  | k + 1 => if f k != 0 then true else anyTo f k

def fl (f : Nat → Int) (k : Nat) : Bool := f k != 0

def cmd (o n : Int) : Int := mark (fl (szb n)) 4 (mark (fl (bo o)) 0 128 4) 3
/-- One copy instruction. -/
def enc1 (o n : Int) : List Int := cmd o n :: (bytesTo (bo o) 4 ++ bytesTo (szb n) 3)

/-- So much of size sz is written behind k instructions. -/
def used (sz : Int) (k : Nat) : Int := min (65536 * (k : Int)) (max sz 0)
/-- The size of instruction k. -/
def piece (sz : Int) (k : Nat) : Int := used sz (k + 1) - used sz k
/-- So many instructions. -/
def many (sz : Int) : Nat := (sz.toNat + 65535) / 65536
/-- Instruction k. -/
def chunk (o sz : Int) (k : Nat) : List Int := enc1 (wrap64 (o + used sz k)) (piece sz k)
/-- The first k instructions. -/
def encTo (o sz : Int) : Nat → List Int
  | 0 => []
  | k + 1 => encTo o sz k ++ chunk o sz k

/-! ### Bounds -/
theorem bo_range (o : Int) (k : Nat) : 0 ≤ bo o k ∧ bo o k < 256 := by unfold bo; omega
theorem szb_range (n : Int) (k : Nat) : 0 ≤ szb n k ∧ szb n k < 256 := by
  unfold szb; split
  · omega
  · exact bo_range n k
theorem bytesTo_len (f : Nat → Int) (k : Nat) : (bytesTo f k).length ≤ k := by
  induction k with
  | zero => simp [bytesTo]
  | succ k ih =>
    simp only [bytesTo]
    split
    · simp; omega
    · omega
theorem bytesTo_mono (f : Nat → Int) (k d : Nat) : ∃ t, bytesTo f (k + d) = bytesTo f k ++ t := by
  induction d with
  | zero => exact ⟨[], by simp⟩
  | succ d ih =>
    obtain ⟨t, ht⟩ := ih
    rw [← Nat.add_assoc]
    simp only [bytesTo]
    split
    · exact ⟨t ++ [f (k + d)], by rw [ht, List.append_assoc]⟩
    · exact ⟨t, ht⟩
/-- Where byte k lies among those that are not zero. -/
theorem bytesTo_at (f : Nat → Int) (k n : Nat) (h : k < n) (hf : fl f k = true) : (bytesTo f n)[(bytesTo f k).length]? = some (f k) := by
  obtain ⟨t, ht⟩ := bytesTo_mono f (k + 1) (n - (k + 1))
  rw [show k + 1 + (n - (k + 1)) = n by omega] at ht
  rw [ht]
  simp only [bytesTo]
  rw [if_pos (by simpa [fl] using hf)]
  rw [List.append_assoc, List.getElem?_append_right (Nat.le_refl _)]
  simp
theorem enc1_len (o n : Int) : (enc1 o n).length ≤ 8 := by
  have h1 := bytesTo_len (bo o) 4
  have h2 := bytesTo_len (szb n) 3
  simp [enc1]; omega
theorem encTo_len (o sz : Int) (k : Nat) : (encTo o sz k).length ≤ 8 * k := by
  induction k with
  | zero => simp [encTo]
  | succ k ih => have := enc1_len (wrap64 (o + used sz k)) (piece sz k); simp [encTo, chunk]; omega
theorem encTo_mono (o sz : Int) (k d : Nat) : ∃ t, encTo o sz (k + d) = encTo o sz k ++ t := by
  induction d with
  | zero => exact ⟨[], by simp⟩
  | succ d ih => obtain ⟨t, ht⟩ := ih; exact ⟨t ++ chunk o sz (k + d), by rw [← Nat.add_assoc]; simp only [encTo]; rw [ht, List.append_assoc]⟩
/-- What lies behind the first k instructions. -/
theorem encTo_at (o sz : Int) (k n : Nat) (h : k < n) (j : Nat) (hj : j < (chunk o sz k).length) : (encTo o sz n)[(encTo o sz k).length + j]? = (chunk o sz k)[j]? := by
  obtain ⟨t, ht⟩ := encTo_mono o sz (k + 1) (n - (k + 1))
  rw [show k + 1 + (n - (k + 1)) = n by omega] at ht
  rw [ht]
  simp only [encTo]
  rw [List.append_assoc, List.getElem?_append_right (by omega), Nat.add_sub_cancel_left, List.getElem?_append_left hj]
theorem encTo_le (o sz : Int) (k n : Nat) (h : k < n) : (encTo o sz k).length + (chunk o sz k).length ≤ (encTo o sz n).length := by
  obtain ⟨t, ht⟩ := encTo_mono o sz (k + 1) (n - (k + 1))
  rw [show k + 1 + (n - (k + 1)) = n by omega] at ht
  rw [ht]
  simp only [encTo]
  simp

/-! ### The arithmetic of the chunks -/
theorem used_zero (sz : Int) : used sz 0 = 0 := by unfold used; omega
theorem many_lt (sz : Int) (k : Nat) : k < many sz ↔ 0 < sz - used sz k := by unfold many used; omega
theorem many_le (sz : Int) (h : sz ≤ 4294967296) : many sz ≤ 65536 := by unfold many; omega
theorem piece_eq (sz : Int) (k : Nat) (h : 0 < sz - used sz k) : piece sz k = if 65536 < sz - used sz k then 65536 else sz - used sz k := by
  unfold piece used at *; split <;> omega
theorem piece_range (sz : Int) (k : Nat) (h : 0 < sz - used sz k) : 0 < piece sz k ∧ piece sz k ≤ 65536 := by
  unfold piece used at *; omega
theorem used_at (sz : Int) (k : Nat) (h : 0 < sz - used sz k) : used sz k = 65536 * (k : Int) := by unfold used at *; omega
theorem used_succ (sz : Int) (k : Nat) : used sz (k + 1) = used sz k + piece sz k := by unfold piece; omega
theorem used_le (sz : Int) (k : Nat) : 0 ≤ used sz k ∧ used sz k ≤ max sz 0 := by unfold used; omega
theorem wrap64_add (a b : Int) : wrap64 (wrap64 a + b) = wrap64 (a + b) := by unfold wrap64; omega
theorem wrap64_range (a : Int) : -9223372036854775808 ≤ wrap64 a ∧ wrap64 a ≤ 9223372036854775807 := by unfold wrap64; omega

/-! ### Bits -/
theorem cmd_bits : ∀ p0 p1 p2 p3 q0 q1 q2 : Bool,
    let c := (fun c : Int => if q2 then bits .or .u8 c 64 else c) ((fun c : Int => if q1 then bits .or .u8 c 32 else c) ((fun c : Int => if q0 then bits .or .u8 c 16 else c)
      ((fun c : Int => if p3 then bits .or .u8 c 8 else c) ((fun c : Int => if p2 then bits .or .u8 c 4 else c) ((fun c : Int => if p1 then bits .or .u8 c 2 else c) ((fun c : Int => if p0 then bits .or .u8 c 1 else c) (128 : Int)))))))
    0 ≤ c ∧ c < 256 ∧ (bits .and .u8 c 128 == 0) = false ∧ (bits .and .u8 c 1 != 0) = p0 ∧ (bits .and .u8 c 2 != 0) = p1 ∧ (bits .and .u8 c 4 != 0) = p2 ∧ (bits .and .u8 c 8 != 0) = p3 ∧
      (bits .and .u8 c 16 != 0) = q0 ∧ (bits .and .u8 c 32 != 0) = q1 ∧ (bits .and .u8 c 64 != 0) = q2 := by
  decide
theorem cmd_eq (o n : Int) : cmd o n = (fun c : Int => if fl (szb n) 2 then bits .or .u8 c 64 else c) ((fun c : Int => if fl (szb n) 1 then bits .or .u8 c 32 else c) ((fun c : Int => if fl (szb n) 0 then bits .or .u8 c 16 else c)
      ((fun c : Int => if fl (bo o) 3 then bits .or .u8 c 8 else c) ((fun c : Int => if fl (bo o) 2 then bits .or .u8 c 4 else c) ((fun c : Int => if fl (bo o) 1 then bits .or .u8 c 2 else c) ((fun c : Int => if fl (bo o) 0 then bits .or .u8 c 1 else c) (128 : Int))))))) := rfl
theorem cmd_range (o n : Int) : 0 ≤ cmd o n ∧ cmd o n < 256 := by
  have h := cmd_bits (fl (bo o) 0) (fl (bo o) 1) (fl (bo o) 2) (fl (bo o) 3) (fl (szb n) 0) (fl (szb n) 1) (fl (szb n) 2)
  rw [cmd_eq]; exact ⟨h.1, h.2.1⟩
theorem cmd_top (o n : Int) : (bits .and .u8 (cmd o n) 128 == 0) = false := by
  have h := cmd_bits (fl (bo o) 0) (fl (bo o) 1) (fl (bo o) 2) (fl (bo o) 3) (fl (szb n) 0) (fl (szb n) 1) (fl (szb n) 2)
  rw [cmd_eq]; exact h.2.2.1
theorem cmd_off (o n : Int) (k : Nat) (hk : k < 4) : (bits .and .u8 (cmd o n) (2 ^ k % 256) != 0) = fl (bo o) k := by
  have h := cmd_bits (fl (bo o) 0) (fl (bo o) 1) (fl (bo o) 2) (fl (bo o) 3) (fl (szb n) 0) (fl (szb n) 1) (fl (szb n) 2)
  rw [cmd_eq]
  match k, hk with
  | 0, _ => exact h.2.2.2.1
  | 1, _ => exact h.2.2.2.2.1
  | 2, _ => exact h.2.2.2.2.2.1
  | 3, _ => exact h.2.2.2.2.2.2.1
theorem cmd_sz (o n : Int) (k : Nat) (hk : k < 3) : (bits .and .u8 (cmd o n) (2 ^ (4 + k) % 256) != 0) = fl (szb n) k := by
  have h := cmd_bits (fl (bo o) 0) (fl (bo o) 1) (fl (bo o) 2) (fl (bo o) 3) (fl (szb n) 0) (fl (szb n) 1) (fl (szb n) 2)
  rw [cmd_eq]
  match k, hk with
  | 0, _ => exact h.2.2.2.2.2.2.2.1
  | 1, _ => exact h.2.2.2.2.2.2.2.2.1
  | 2, _ => exact h.2.2.2.2.2.2.2.2.2

/-! ### What the decoder spells -/
theorem valTo_range (f : Nat → Int) (hf : ∀ k, 0 ≤ f k ∧ f k < 256) (k : Nat) : 0 ≤ valTo f k ∧ valTo f k < 2 ^ (8 * k) := by
  induction k with
  | zero => simp [valTo]
  | succ k ih =>
    have h := hf k
    simp only [valTo]
    have hp : (0 : Int) < 2 ^ (8 * k) := Int.pow_pos (by decide)
    rw [show 8 * (k + 1) = 8 * k + 8 by omega, Int.pow_add]
    generalize (2 : Int) ^ (8 * k) = P at *
    have h1 : 0 ≤ f k * P := Int.mul_nonneg h.1 (by omega)
    have h2 : f k * P ≤ 255 * P := Int.mul_le_mul_of_nonneg_right (by omega) (by omega)
    omega
theorem valTo_off (o : Int) : valTo (bo o) 4 = o % 4294967296 := by
  simp only [valTo, bo]; omega
theorem valTo_sz (n : Int) (h0 : 0 < n) (h1 : n < 65536) : valTo (szb n) 3 = n := by
  have hn : ¬ n = 65536 := by omega
  simp only [valTo, szb, if_neg hn, bo]; omega
theorem anyTo_sz (n : Int) (h0 : 0 < n) (h1 : n < 65536) : anyTo (szb n) 3 = true := by
  have hn : ¬ n = 65536 := by omega
  by_cases h2 : bo n 1 = 0
  · have h3 : ¬ bo n 0 = 0 := by unfold bo at *; omega
    by_cases h4 : bo n 2 = 0 <;> simp [anyTo, szb, hn, h2, h3, h4]
  · by_cases h4 : bo n 2 = 0 <;> simp [anyTo, szb, hn, h2, h4]
theorem anyTo_whole : anyTo (szb 65536) 3 = false := by simp [anyTo, szb]

/-! ### What Go's '|' makes of the bytes -/
theorem valTo_same (f : Nat → Int) (i : Nat) (h : fl f i = false) : valTo f (i + 1) = valTo f i := by
  have h0 : f i = 0 := by simpa [fl] using h
  simp [valTo, h0]
theorem nat_or_add (a b k : Nat) (h : a < 2 ^ k) : a ||| b * 2 ^ k = a + b * 2 ^ k := by
  rw [Nat.or_comm, Nat.add_comm]
  exact nat_join k (b * 2 ^ k) a (by simp) h
theorem i64_or_nat (a b : Nat) (ha : a < 2 ^ 63) (hb : b < 2 ^ 63) : bits .or .i64 (a : Int) (b : Int) = ((a ||| b : Nat) : Int) := by
  show IntKind.i64.wrap (((BitVec.ofInt 64 (a : Int) ||| BitVec.ofInt 64 (b : Int)).toNat : Nat) : Int) = _
  rw [BitVec.toNat_or, ofInt_u64 a (by omega), ofInt_u64 b (by omega), IntKind.wrap_i64]
  have h := Nat.or_lt_two_pow ha hb
  omega
theorem pow_small (i : Nat) (h : i < 4) : (2 : Nat) ^ (8 * i) ≤ 16777216 := by
  match i, h with
  | 0, _ => decide
  | 1, _ => decide
  | 2, _ => decide
  | 3, _ => decide
theorem nat_parts (f : Nat → Int) (hf : ∀ k, 0 ≤ f k ∧ f k < 256) (i : Nat) (h : i < 4) : ∃ a b : Nat, valTo f i = a ∧ f i = b ∧ a < 2 ^ (8 * i) ∧ b * 2 ^ (8 * i) < 4294967296 ∧ f i * 2 ^ (8 * i) = ((b * 2 ^ (8 * i) : Nat) : Int) := by
  have hv := valTo_range f hf i
  have hb := hf i
  obtain ⟨a, ha⟩ := Int.eq_ofNat_of_zero_le hv.1
  obtain ⟨b, hb'⟩ := Int.eq_ofNat_of_zero_le hb.1
  have hc : ((2 : Int) ^ (8 * i)) = ((2 ^ (8 * i) : Nat) : Int) := by simp
  have hp := pow_small i h
  refine ⟨a, b, ha, hb', ?_, ?_, ?_⟩
  · have h2 := hv.2
    rw [ha, hc] at h2
    exact Int.ofNat_lt.1 h2
  · have hb2 : b ≤ 255 := by omega
    have h3 : b * 2 ^ (8 * i) ≤ 255 * 16777216 := Nat.mul_le_mul hb2 hp
    omega
  · rw [hb', hc, Int.natCast_mul]
theorem or_u32 (f : Nat → Int) (hf : ∀ k, 0 ≤ f k ∧ f k < 256) (i : Nat) (h : i < 4) : bits .or .u32 (valTo f i) (f i * 2 ^ (8 * i) % 4294967296) = valTo f (i + 1) := by
  obtain ⟨a, b, ha, hb, h1, h2, h3⟩ := nat_parts f hf i h
  have hp := pow_small i h
  simp only [valTo]
  rw [h3, ha, show (((b * 2 ^ (8 * i) : Nat) : Int) % 4294967296) = ((b * 2 ^ (8 * i) : Nat) : Int) by omega, u32_or_nat a (b * 2 ^ (8 * i)) (by omega) h2, nat_or_add a b (8 * i) h1, Int.natCast_add]
theorem or_i64 (f : Nat → Int) (hf : ∀ k, 0 ≤ f k ∧ f k < 256) (i : Nat) (h : i < 4) : bits .or .i64 (valTo f i) (wrap64 (f i * 2 ^ (8 * i))) = valTo f (i + 1) := by
  obtain ⟨a, b, ha, hb, h1, h2, h3⟩ := nat_parts f hf i h
  have hp := pow_small i h
  simp only [valTo]
  rw [h3, ha, show wrap64 ((b * 2 ^ (8 * i) : Nat) : Int) = ((b * 2 ^ (8 * i) : Nat) : Int) by unfold wrap64; omega, i64_or_nat a (b * 2 ^ (8 * i)) (by omega) (by omega), nat_or_add a b (8 * i) h1, Int.natCast_add]
theorem valTo_whole : valTo (szb 65536) 3 = 0 := by simp [valTo, szb]
/-- The decoder's offset is the one that it wants. -/
theorem off_eq (o sz : Int) (k : Nat) (hk : used sz k = 65536 * (k : Int)) : wrap64 (o + used sz k) % 4294967296 = (o % 4294967296 + (k : Int) * 65536) % 4294967296 := by
  rw [hk]; unfold wrap64; omega
end Go.Proofs.Qxb6601483aMods
