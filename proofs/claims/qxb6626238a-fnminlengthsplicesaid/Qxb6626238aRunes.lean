/-
  SEAT b6626238a: '[]rune(s)': code points, none of them negative.
-/
import Derived.Test.Qxb6626238aMin
namespace Go.Proofs.Qxb6626238a
open Go.RowKit

theorem runes_list (s : ByteArray) : ∀ (bound i : Nat) (acc : Array Value), ∃ ls : List Int, (Conv.runesFrom s bound i acc).toList = acc.toList ++ rc ls ∧ (∀ z ∈ ls, 0 ≤ z) ∧ ls.length ≤ bound
  | 0, _, acc => ⟨[], by simp [Conv.runesFrom, rc], by simp, by simp⟩
  | bound + 1, i, acc => by
    unfold Conv.runesFrom
    split
    · obtain ⟨ls, h1, h2, h3⟩ := runes_list s bound (i + (Utf8.decode s i).2) (acc.push (.int .i32 (Int.ofNat (Utf8.decode s i).1)))
      refine ⟨Int.ofNat (Utf8.decode s i).1 :: ls, ?_, ?_, ?_⟩
      · simp only [h1]
        simp [rc]
      · intro z hz
        rcases List.mem_cons.1 hz with rfl | hz
        · exact Int.natCast_nonneg _
        · exact h2 z hz
      · simp; omega
    · exact ⟨[], by simp [rc], by simp, by simp⟩

theorem cnt_all (ls : List Int) (h : ∀ z ∈ ls, 0 ≤ z) : cnt ls = ls.length := by
  unfold cnt
  rw [List.filter_eq_self.2]
  intro z hz
  have := h z hz
  simp; omega

/-- '[]rune(s)'. -/
theorem conv_runes (w : World) (s : ByteArray) (hs : s.size ≤ 1048576) :
    ∃ (ls : List Int) (capL : Nat) (w' : World), (convert 9 22 (.string s)).run Try.prog w = .ok (.slice (some ⟨w.heap.size, 0, none⟩) ls.length capL) w' ∧ RowAt w' w.heap.size ls ∧ Below w.heap.size w w' ∧ cnt ls = ls.length ∧ ls.length ≤ s.size := by
  obtain ⟨ls, h1, h2, h3⟩ := runes_list s s.size 0 #[]
  have h1' : (Conv.runesFrom s s.size 0 #[]).toList = rc ls := by simpa using h1
  have hsz : (Conv.runesFrom s s.size 0 #[]).size = ls.length := by
    rw [← Array.length_toList, h1', rc_length]
  have hrun := run_runes_of_string (P := Try.prog) w 9 22 21 s Try.underlying9 Try.underlying22 Try.underlying21 (by rw [hsz]; omega)
  rw [hsz] at hrun
  refine ⟨ls, _, _, hrun, ⟨?_, fun j hj => ?_⟩, ?_, cnt_all ls h2, h3⟩
  · show w.heap.size < (w.drew.heap.push _).size
    simp
  · have e : (w.drew.alloc (.cells (Conv.runesFrom s s.size 0 #[] ++ Array.replicate (grownCap w ls.length 0 21 - ls.length) (.int .i32 0)) 21)).cell? ⟨w.heap.size, j, none⟩ = (Conv.runesFrom s s.size 0 #[] ++ Array.replicate (grownCap w ls.length 0 21 - ls.length) (.int .i32 0))[j]? :=
      World.cell?_alloc_mark w.drew _ 21 (0, 0) j
    rw [e, Array.getElem?_append_left (by rw [hsz]; exact hj), ← Array.getElem?_toList, h1']
    exact rc_at ls j hj
  · exact (Below.drew (Below.refl _ _)).alloc (Nat.le_refl _) _
end Go.Proofs.Qxb6626238a
