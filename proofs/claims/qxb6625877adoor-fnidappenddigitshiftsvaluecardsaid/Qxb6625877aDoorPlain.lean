/-
  SEAT b6625877aD: the plain mathematics: sums of lengths; the decimal value of a field, held at 2^32 - 1.
-/
import Derived.Lib.ParseIntB
import Derived.Lib.ParseIntBCases
namespace Go.Proofs.Qxb6625877aDoor
open Go

/-! ### sums of lengths -/
/-- The lengths of the first k strings, summed. -/
def T (ss : List ByteArray) (k : Nat) : Nat := ((ss.take k).map (·.size)).sum
theorem take_snoc {α : Type} (l : List α) (k : Nat) (d : α) (h : k < l.length) : l.take (k + 1) = l.take k ++ [l.getD k d] := by
  rw [List.take_succ_eq_append_getElem h]
  simp [List.getD, List.getElem?_eq_getElem h]
theorem T_zero (ss : List ByteArray) : T ss 0 = 0 := rfl
theorem T_succ (ss : List ByteArray) (k : Nat) (h : k < ss.length) : T ss (k + 1) = T ss k + (ss.getD k ByteArray.empty).size := by
  unfold T; rw [take_snoc ss k ByteArray.empty h]; simp
theorem T_mono (ss : List ByteArray) (k m : Nat) (h : k ≤ m) : T ss k ≤ T ss m := by
  induction m with
  | zero => have : k = 0 := by omega
            subst this; exact Nat.le_refl _
  | succ m ih =>
    by_cases e : k = m + 1
    · subst e; exact Nat.le_refl _
    · refine Nat.le_trans (ih (by omega)) ?_
      by_cases hm : m < ss.length
      · rw [T_succ ss m hm]; omega
      · unfold T; rw [List.take_of_length_le (by omega), List.take_of_length_le (by omega)]; exact Nat.le_refl _
/-- Each of the first n strings is no longer than their sum. -/
theorem T_one (ss : List ByteArray) (n j : Nat) (hn : n ≤ ss.length) (hj : j < n) : (ss.getD j ByteArray.empty).size ≤ T ss n := by
  have h1 := T_succ ss j (by omega)
  have h2 := T_mono ss (j + 1) n (by omega)
  omega

/-! ### the value of a field -/
def endv : Lib.NumEnd Nat → Nat
  | .ok u => u
  | .range => 4294967295
  | _ => 0
/-- What 'id' answers at a field's bytes. -/
def idv (l : List UInt8) : Nat := endv (Lib.parseUintB 32 l)
/-- The same with the digits before worth 'acc'. -/
def idm (acc : Nat) (l : List UInt8) : Nat := endv (Lib.parseUintM 4294967295 acc l)

theorem idv_eq (l : List UInt8) : idv l = idm 0 l := by
  unfold idv idm Lib.parseUintB
  by_cases h : l = []
  · subst h; rfl
  · rw [if_neg h]
theorem idm_nil (acc : Nat) : idm acc [] = acc := rfl
theorem idm_other (acc : Nat) (c : UInt8) (r : List UInt8) (h : ¬ (48 ≤ c.toNat ∧ c.toNat ≤ 57)) : idm acc (c :: r) = 0 := by
  unfold idm Lib.parseUintM
  rw [if_neg h]
  rfl
theorem idm_over (acc : Nat) (c : UInt8) (r : List UInt8) (h : 48 ≤ c.toNat ∧ c.toNat ≤ 57) (ha : acc ≤ 4294967295) (ho : 4294967295 < acc * 10 + (c.toNat - 48)) : idm acc (c :: r) = 4294967295 := by
  unfold idm Lib.parseUintM
  rw [if_pos h, if_neg (by omega), if_pos ho]
  rfl
theorem idm_on (acc : Nat) (c : UInt8) (r : List UInt8) (h : 48 ≤ c.toNat ∧ c.toNat ≤ 57) (ha : acc ≤ 4294967295) (ho : acc * 10 + (c.toNat - 48) ≤ 4294967295) : idm acc (c :: r) = idm (acc * 10 + (c.toNat - 48)) r := by
  have e : Lib.parseUintM 4294967295 acc (c :: r) = Lib.parseUintM 4294967295 (acc * 10 + (c.toNat - 48)) r := by
    rw [Lib.parseUintM, if_pos h, if_neg (by omega), if_neg (by omega)]
  unfold idm
  rw [e]
theorem idm_le (l : List UInt8) : ∀ acc, acc ≤ 4294967295 → idm acc l ≤ 4294967295 := by
  induction l with
  | nil => intro acc h; exact h
  | cons c r ih =>
    intro acc h
    by_cases hd : 48 ≤ c.toNat ∧ c.toNat ≤ 57
    · by_cases ho : acc * 10 + (c.toNat - 48) ≤ 4294967295
      · rw [idm_on acc c r hd h ho]; exact ih _ ho
      · rw [idm_over acc c r hd h (by omega)]; exact Nat.le_refl _
    · rw [idm_other acc c r hd]; exact Nat.zero_le _
theorem idv_le (l : List UInt8) : idv l ≤ 4294967295 := by rw [idv_eq]; exact idm_le l 0 (Nat.zero_le _)

/-- ONE DIGIT MORE: ten times the value, plus the digit, held at the greatest uint32. -/
theorem idm_snoc (d : UInt8) (hd : 48 ≤ d.toNat ∧ d.toNat ≤ 57) (l : List UInt8) (hl : ∀ c ∈ l, 48 ≤ c.toNat ∧ c.toNat ≤ 57) :
    ∀ acc, acc ≤ 4294967295 → idm acc (l ++ [d]) = min (idm acc l * 10 + (d.toNat - 48)) 4294967295 := by
  induction l with
  | nil =>
    intro acc h
    show idm acc [d] = _
    rw [idm_nil]
    by_cases ho : acc * 10 + (d.toNat - 48) ≤ 4294967295
    · rw [idm_on acc d [] hd h ho, idm_nil]; omega
    · rw [idm_over acc d [] hd h (by omega)]; omega
  | cons c r ih =>
    intro acc h
    have hc := hl c (by simp)
    have hr : ∀ c ∈ r, 48 ≤ c.toNat ∧ c.toNat ≤ 57 := fun x hx => hl x (by simp [hx])
    show idm acc (c :: (r ++ [d])) = _
    by_cases ho : acc * 10 + (c.toNat - 48) ≤ 4294967295
    · rw [idm_on acc c _ hc h ho, idm_on acc c _ hc h ho]; exact ih hr _ ho
    · rw [idm_over acc c _ hc h (by omega), idm_over acc c _ hc h (by omega)]; omega
theorem idv_snoc (d : UInt8) (hd : 48 ≤ d.toNat ∧ d.toNat ≤ 57) (l : List UInt8) (hl : ∀ c ∈ l, 48 ≤ c.toNat ∧ c.toNat ≤ 57) :
    idv (l ++ [d]) = min (idv l * 10 + (d.toNat - 48)) 4294967295 := by
  rw [idv_eq, idv_eq]; exact idm_snoc d hd l hl 0 (Nat.zero_le _)

/-! ### the bytes of a string from a place on -/
theorem drop_cons (s : ByteArray) (k : Nat) (h : k < s.size) : s.data.toList.drop k = s[k] :: s.data.toList.drop (k + 1) := by
  have hl : k < s.data.toList.length := by simpa using h
  rw [List.drop_eq_getElem_cons hl]
  rfl
theorem drop_all (s : ByteArray) : s.data.toList.drop s.size = [] := by
  apply List.drop_of_length_le; simp
end Go.Proofs.Qxb6625877aDoor
