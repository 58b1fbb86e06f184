/-
  SEAT b6625831a: the plain mathematics of folding 'J' over a list of strings.
-/
import Derived.Test.Qxb6625831aJoin
namespace Go.Proofs.Qxb6625831a
open Go.RowKit

/-- The lengths of the first k strings, summed. -/
def T (ss : List ByteArray) (k : Nat) : Nat := ((ss.take k).map (·.size)).sum
/-- The first k names joined, from the empty path on. -/
def F (ss : List ByteArray) (k : Nat) : ByteArray := (ss.take k).foldl J ⟨#[]⟩

theorem take_snoc {α : Type} (l : List α) (k : Nat) (d : α) (h : k < l.length) : l.take (k + 1) = l.take k ++ [l.getD k d] := by
  rw [List.take_succ_eq_append_getElem h]
  simp [List.getD, List.getElem?_eq_getElem h]
theorem T_zero (ss : List ByteArray) : T ss 0 = 0 := rfl
theorem T_succ (ss : List ByteArray) (k : Nat) (h : k < ss.length) : T ss (k + 1) = T ss k + (ss.getD k ByteArray.empty).size := by
  unfold T; rw [take_snoc ss k ByteArray.empty h]; simp
theorem T_mono (ss : List ByteArray) (k m : Nat) (h : k ≤ m) : T ss k ≤ T ss m := by
  induction m with
  | zero => have : k = 0 := by omega
            subst this; exact Nat.le_refl _
  | succ m ih =>
    by_cases e : k = m + 1
    · subst e; exact Nat.le_refl _
    · refine Nat.le_trans (ih (by omega)) ?_
      by_cases hm : m < ss.length
      · rw [T_succ ss m hm]; omega
      · unfold T; rw [List.take_of_length_le (by omega), List.take_of_length_le (by omega)]; exact Nat.le_refl _
theorem F_zero (ss : List ByteArray) : F ss 0 = ⟨#[]⟩ := rfl
theorem F_succ (ss : List ByteArray) (k : Nat) (h : k < ss.length) : F ss (k + 1) = J (F ss k) (ss.getD k ByteArray.empty) := by
  unfold F; rw [take_snoc ss k ByteArray.empty h]; simp
theorem F_size (ss : List ByteArray) (k : Nat) (h : k ≤ ss.length) : (F ss k).size ≤ T ss k + k := by
  induction k with
  | zero => rw [F_zero]; exact Nat.le_refl 0
  | succ k ih =>
    rw [F_succ ss k (by omega), T_succ ss k (by omega)]
    have := J_size (F ss k) (ss.getD k ByteArray.empty)
    have := ih (by omega)
    omega
end Go.Proofs.Qxb6625831a
