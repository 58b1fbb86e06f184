/-
  SEAT b6625831a: the contracts of 'join' and 'ZZjoin', and the plain laws of the joining: no loop, no memory.
-/
import Derived.Test.Qxb6625831aRows
import Derived.WalkKit
import Derived.Outline
namespace Go.Proofs.Qxb6625831a
open Go.RowKit

/-! ### THE PLAIN FUNCTION AND ITS LAWS -/
/-- The path of the name b in the object at a. -/
def J (a b : ByteArray) : ByteArray := if a.toList = [] ∨ b.toList = [] then a ++ b else a ++ ⟨#[46]⟩ ++ b

theorem eq_of_toList {a b : ByteArray} (h : a.toList = b.toList) : a = b := by
  rw [ByteArray.toList_eq, ByteArray.toList_eq] at h
  cases a; cases b
  simpa using h
theorem toList_append (a b : ByteArray) : (a ++ b).toList = a.toList ++ b.toList := by
  rw [ByteArray.toList_eq, ByteArray.toList_eq, ByteArray.toList_eq]; simp
theorem toList_nil : (⟨#[]⟩ : ByteArray).toList = [] := by rw [ByteArray.toList_eq]
theorem length_toList (a : ByteArray) : a.toList.length = a.size := by
  rw [ByteArray.toList_eq]; simp

/-- The same function on lists. -/
def JL (a b : List UInt8) : List UInt8 := if a = [] ∨ b = [] then a ++ b else a ++ 46 :: b
theorem J_toList (a b : ByteArray) : (J a b).toList = JL a.toList b.toList := by
  unfold J JL
  split <;> simp [toList_append]
theorem JL_length (a b : List UInt8) : (JL a b).length ≤ a.length + b.length + 1 := by
  unfold JL; split <;> simp <;> omega
theorem J_size (a b : ByteArray) : (J a b).size ≤ a.size + b.size + 1 := by
  have := JL_length a.toList b.toList
  rw [← J_toList, length_toList, length_toList, length_toList] at this
  exact this
theorem JL_nil_left (a : List UInt8) : JL [] a = a := by simp [JL]
theorem JL_nil_right (a : List UInt8) : JL a [] = a := by simp [JL]
theorem JL_assoc (a b c : List UInt8) : JL (JL a b) c = JL a (JL b c) := by
  cases a with
  | nil => rw [JL_nil_left, JL_nil_left]
  | cons x a =>
    cases b with
    | nil => rw [JL_nil_right, JL_nil_left]
    | cons y b =>
      cases c with
      | nil => rw [JL_nil_right, JL_nil_right]
      | cons z c => simp [JL]
theorem J_assoc (a b c : ByteArray) : J (J a b) c = J a (J b c) := by
  apply eq_of_toList
  rw [J_toList, J_toList, J_toList, J_toList, JL_assoc]
theorem J_nil_left (a : ByteArray) : J ⟨#[]⟩ a = a := by
  apply eq_of_toList
  rw [J_toList, toList_nil, JL_nil_left]
theorem J_nil_right (a : ByteArray) : J a ⟨#[]⟩ = a := by
  apply eq_of_toList
  rw [J_toList, toList_nil, JL_nil_right]
theorem J_pos {a b : ByteArray} (h : a.toList = [] ∨ b.toList = []) : J a b = a ++ b := if_pos h
theorem J_neg {a b : ByteArray} (h : ¬ (a.toList = [] ∨ b.toList = [])) : J a b = a ++ ⟨#[46]⟩ ++ b := if_neg h
theorem ret_string {a b : ByteArray} (h : a = b) : Ending.returned (.string a) = .returned (.string b) := by rw [h]

/-! ### THE CONTRACTS -/
theorem join_any (a b : ByteArray) (h : a.size + b.size + 1 ≤ 9223372036854775807) (w : World) :
    Calls Try.prog 9 #[.string a, .string b] w fun e w' => e = .returned (.string (J a b)) ∧ w' = w := by
  go_enter Try.func9, Try.ntmps9
  go_wp2
  · have h1 : a.toList = [] := by assumption
    go_ret
    exact ⟨ret_string (J_pos (.inl h1)).symm, rfl⟩
  · have h1 : a.toList.isEmpty = true ∨ b.toList.isEmpty = true := by assumption
    go_ret
    exact ⟨ret_string (J_pos (by simpa using h1)).symm, rfl⟩
  · have h1 : a.toList.isEmpty = false ∧ b.toList.isEmpty = false := by assumption
    go_ret
    exact ⟨ret_string (J_neg (by simpa using h1)).symm, rfl⟩

theorem zzjoin_any (a b : ByteArray) (h : a.size + b.size + 1 ≤ 9223372036854775807) (w : World) :
    Calls Try.prog 6 #[.string a, .string b] w fun e w' => e = .returned (.string (J a b)) ∧ w' = w := by
  go_enter Try.func6, Try.ntmps6
  go_wp2_with (go_at_call 9; refine (join_any _ _ h _).mono ?_; rintro e w' ⟨rfl, rfl⟩)
  go_ret
  exact ⟨rfl, rfl⟩
end Go.Proofs.Qxb6625831a
