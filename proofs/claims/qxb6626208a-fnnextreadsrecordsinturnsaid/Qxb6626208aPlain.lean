/-
  SEAT b6626208a: the plain mathematics of a canonical length prefix.
-/
import Derived.Laws.BitsLemmas
import Derived.Laws.Bits128
import Derived.Lib.EndianBits
namespace Go.Proofs.Qxb6626208a
open Go

/-- How many bytes the prefix of m takes (m < 1<<21). -/
def ek (m : Nat) : Nat := if m < 128 then 1 else if m < 16384 then 2 else 3
/-- The prefix's first, second and third byte (0 where it has none). -/
def eb0 (m : Nat) : Nat := if m < 128 then m else 128 + m % 128
def eb1 (m : Nat) : Nat := if m < 128 then 0 else if m < 16384 then m / 128 else 128 + m / 128 % 128
def eb2 (m : Nat) : Nat := if m < 16384 then 0 else m / 16384
def eb (m : Nat) : Nat → Nat
  | 0 => eb0 m
  | 1 => eb1 m
  | 2 => eb2 m
  | _ => 0
theorem ek_pos (m : Nat) : 1 ≤ ek m := by unfold ek; split <;> (try split) <;> omega
theorem ek_le (m : Nat) : ek m ≤ 3 := by unfold ek; split <;> (try split) <;> omega
theorem eb_lt (m j : Nat) (h : m < 2097152) : eb m j < 256 := by
  unfold eb
  split
  · unfold eb0; split <;> omega
  · unfold eb1; split <;> (try split) <;> omega
  · unfold eb2; split <;> omega
  · omega

theorem enc_one (m : Nat) (h : m < 128) : eb m 0 = m ∧ eb m 1 = 0 ∧ eb m 2 = 0 ∧ ek m = 1 := by
  refine ⟨?_, ?_, ?_, ?_⟩
  · show eb0 m = m; unfold eb0; rw [if_pos h]
  · show eb1 m = 0; unfold eb1; rw [if_pos h]
  · show eb2 m = 0; unfold eb2; rw [if_pos (by omega)]
  · unfold ek; rw [if_pos h]
theorem enc_two (m : Nat) (h1 : 128 ≤ m) (h : m < 16384) : eb m 0 = 128 + m % 128 ∧ eb m 1 = m / 128 ∧ eb m 2 = 0 ∧ ek m = 2 := by
  have hn : ¬ m < 128 := by omega
  refine ⟨?_, ?_, ?_, ?_⟩
  · show eb0 m = _; unfold eb0; rw [if_neg hn]
  · show eb1 m = _; unfold eb1; rw [if_neg hn, if_pos h]
  · show eb2 m = 0; unfold eb2; rw [if_pos h]
  · unfold ek; rw [if_neg hn, if_pos h]
theorem enc_three (m : Nat) (h1 : 16384 ≤ m) : eb m 0 = 128 + m % 128 ∧ eb m 1 = 128 + m / 128 % 128 ∧ eb m 2 = m / 16384 ∧ ek m = 3 := by
  have hn : ¬ m < 128 := by omega
  have hn2 : ¬ m < 16384 := by omega
  refine ⟨?_, ?_, ?_, ?_⟩
  · show eb0 m = _; unfold eb0; rw [if_neg hn]
  · show eb1 m = _; unfold eb1; rw [if_neg hn, if_neg hn2]
  · show eb2 m = _; unfold eb2; rw [if_neg hn2]
  · unfold ek; rw [if_neg hn, if_neg hn2]

/-! ### bits -/
theorem or128 (x : Int) (h0 : 0 ≤ x) (h1 : x < 128) : bits .or .u8 x 128 = 128 + x := by
  rw [bits_join_low .u8 8 (by decide) wraps_u8 7 x 128 h0 (by omega) (by omega) (by decide) (by decide) (by decide)]
  omega
/-- The encoder's byte: the low seven bits with the mark. -/
theorem mark (x : Int) : bits .or .u8 (bits .and .i64 x 127 % 256) 128 = 128 + x % 128 := by
  rw [i64_and127]
  have e : x % 128 % 256 = x % 128 := by omega
  rw [e, or128 _ (by omega) (by omega)]
/-- The decoder's: the mark struck. -/
theorem u8_and127 (x : Int) (h0 : 0 ≤ x) (h1 : x < 256) : bits .and .u8 x 127 = x % 128 := bits_mask .u8 8 (by decide) wraps_u8 7 (by decide) x h0 h1
theorem wraps_i64 (n : Int) (h0 : 0 ≤ n) (h1 : n < 2 ^ 62) : IntKind.i64.wrap n = n := by rw [IntKind.wrap_i64]; omega
theorem i64_or0 (x : Int) (h0 : 0 ≤ x) (h1 : x < 4611686018427387904) : bits .or .i64 0 x = x := by
  rw [bits_join_low .i64 62 (by decide) wraps_i64 0 0 x (by decide) (by decide) (by decide) h0 (by omega) (by omega)]
  omega
theorem i64_or7 (y x : Int) (h0 : 0 ≤ y) (h1 : y < 128) (hx : 0 ≤ x) (hx1 : x % 128 = 0) (hx2 : x < 4611686018427387904) : bits .or .i64 y x = y + x :=
  bits_join_low .i64 62 (by decide) wraps_i64 7 y x h0 h1 (by omega) hx hx1 (by omega)
theorem i64_or14 (y x : Int) (h0 : 0 ≤ y) (h1 : y < 16384) (hx : 0 ≤ x) (hx1 : x % 16384 = 0) (hx2 : x < 4611686018427387904) : bits .or .i64 y x = y + x :=
  bits_join_low .i64 62 (by decide) wraps_i64 14 y x h0 h1 (by omega) hx hx1 (by omega)

/-! ### a string that opens with the prefix of m and holds m bytes behind it -/
/-- The byte at place j, as a number (0 beyond the end). -/
def at_ (s : ByteArray) (j : Nat) : Nat := if h : j < s.size then s[j].toNat else 0
theorem at_eq (s : ByteArray) (j : Nat) (h : j < s.size) : at_ s j = s[j].toNat := by unfold at_; rw [dif_pos h]
structure Starts (s : ByteArray) (k m : Nat) : Prop where
  len : k = ek m
  small : m < 2097152
  fits : k + m ≤ s.size
  bytes : ∀ j, j < k → at_ s j = eb m j
/-- The same string with something behind it. -/
theorem at_append (s t : ByteArray) (j : Nat) (h : j < s.size) : at_ (s ++ t) j = at_ s j := by
  have h1 : j < (s ++ t).size := by rw [ByteArray.size_append]; omega
  rw [at_eq _ _ h, at_eq _ _ h1, ByteArray.getElem_append_left h]
theorem Starts.append {s : ByteArray} {k m : Nat} (h : Starts s k m) (t : ByteArray) : Starts (s ++ t) k m := by
  refine ⟨h.len, h.small, by rw [ByteArray.size_append]; have := h.fits; omega, fun j hj => ?_⟩
  rw [at_append s t j (by have := h.fits; omega)]
  exact h.bytes j hj

/-! ### cuts -/
theorem cut_mid (s : ByteArray) (k m : Nat) (h : k + m ≤ s.size) : (s.extract k s.size).extract 0 m = s.extract k (k + m) := by
  rw [ByteArray.extract_extract]
  congr 1
  omega
theorem cut_end (s : ByteArray) (k m : Nat) (_h : k + m ≤ s.size) : (s.extract k s.size).extract m (s.size - k) = s.extract (k + m) s.size := by
  rw [ByteArray.extract_extract]
  congr 1
  omega
theorem append_mid (s t : ByteArray) (k m : Nat) (h : k + m ≤ s.size) : (s ++ t).extract k (k + m) = s.extract k (k + m) := by
  apply ByteArray.ext
  rw [ByteArray.data_extract, ByteArray.data_append, ByteArray.data_extract, Array.extract_append]
  have hs : s.data.size = s.size := rfl
  have e : t.data.extract (k - s.data.size) (k + m - s.data.size) = #[] := by
    apply Array.extract_empty_of_stop_le_start
    omega
  rw [e, Array.append_empty]
theorem append_end (s t : ByteArray) (k : Nat) (h : k ≤ s.size) : (s ++ t).extract k (s ++ t).size = s.extract k s.size ++ t := by
  apply ByteArray.ext
  rw [ByteArray.data_extract, ByteArray.data_append, ByteArray.data_append, ByteArray.data_extract, ByteArray.size_append, Array.extract_append]
  have hs : s.data.size = s.size := rfl
  have ht : t.data.size = t.size := rfl
  have e1 : s.data.extract k (s.size + t.size) = s.data.extract k s.size := by
    apply Array.ext
    · simp
    · intro i h1 h2; simp
  have e2 : t.data.extract (k - s.data.size) (s.size + t.size - s.data.size) = t.data := by
    have a1 : k - s.data.size = 0 := by omega
    have a2 : s.size + t.size - s.data.size = t.data.size := by omega
    rw [a1, a2, Array.extract_size]
  rw [e1, e2]
end Go.Proofs.Qxb6626208a
