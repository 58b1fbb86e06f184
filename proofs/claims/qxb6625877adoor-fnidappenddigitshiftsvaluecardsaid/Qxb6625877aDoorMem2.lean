/-
  SEAT b6625877aD: 'b := make([]byte, len(f)+1); copy(b, f); b[len(f)] = d', and stores into the call's own rows.
-/
import Derived.Test.Qxb6625877aDoorMem
import Derived.Laws.IdiomStrings
namespace Go.Proofs.Qxb6625877aDoor
open Go.RowKit

theorem info5 : (Tryd.prog.info? 5).map (fun i => (i.zero, i.size, i.bytes)) = some (some (.int .u8 0), 1, 1) := by kernel_rfl

theorem NewRow.free {E : TypeId} {g : Nat} {cs : List Value} {w w2 : World} (h : NewRow E g cs w w2) (j : Nat) : w2.frozen? ⟨g, j, none⟩ = false := by
  unfold World.frozen?
  simp [h.row]
theorem NewRow.set {E : TypeId} {g : Nat} {cs : List Value} {w w2 : World} (h : NewRow E g cs w w2) (hg : w.heap.size ≤ g) (j : Nat) (v : Value) : NewRow E g (cs.set j v) w (w2.setCell ⟨g, j, none⟩ v) := by
  refine ⟨?_, h.old.setCell hg v⟩
  rw [setCell_eq_setRow w2 g j cs.toArray E (0, 0) v h.row, setRow_heap w2 g cs.toArray _ E (0, 0) h.row]
  simp
/-- A block of the world before stays. -/
theorem NewRow.keep {E E' : TypeId} {g g' : Nat} {cs cs' : List Value} {w w1 w2 : World} (h : NewRow E g cs w w1) (h2 : NewRow E' g' cs' w1 w2) : w2.heap[g]? = some (.cells cs.toArray E (0, 0)) := by
  rw [h2.old.block g h.lt]; exact h.row

/-- The bytes of a string as cells. -/
def bc (l : List UInt8) : List Value := l.map fun b => .int .u8 (b.toNat : Int)

theorem make_bytes (w : World) (s : ByteArray) (hs : s.size ≤ 1048576) :
    ∃ w1 w2 v0, (Instr.makeSlice 28 (.int .i64 ((s.size : Int) + 1)) (.int .i64 ((s.size : Int) + 1))).run Tryd.prog w = .ok (.slice (some ⟨w.heap.size, 0, none⟩) (s.size + 1) (s.size + 1)) w1 ∧
      (∀ ty, (Builtin.copy_ #[28, 9] ty #[.slice (some ⟨w.heap.size, 0, none⟩) (s.size + 1) (s.size + 1), .string s]).run Tryd.prog w1 = .ok (goInt s.size) w2) ∧ NewRow 5 w.heap.size (bc s.data.toList ++ [v0]) w w2 := by
  obtain ⟨i0, hi, hz0, hz1, hz2⟩ := info_parts info5
  obtain ⟨w1, hrun, hown, hgr⟩ := run_make_full (P := Tryd.prog) w w.heap.size 28 5 i0 _ 1 Tryd.underlying28 hi hz0 hz1 .i64 .i64 (s.size + 1) (by rw [hz2]; omega) (by unfold maxLen; omega) (Nat.le_refl _)
  obtain ⟨L, hL, hrow⟩ := made_row hown
  have hb1 : Below w.heap.size w w1 := (Below.refl _ _).grown hgr (Nat.le_refl _) (fun k hk => by cases hk)
  have hcp : ∀ ty, (Builtin.copy_ #[28, 9] ty #[.slice (some ⟨w.heap.size, 0, none⟩) (s.size + 1) (s.size + 1), .string s]).run Tryd.prog w1 =
      .ok (goInt s.size) (w1.setRow w.heap.size (L.toArray.toList.take 0 ++ Lib.byteCells s.data.toList ++ L.toArray.toList.drop (0 + s.size)).toArray) := fun ty =>
    Lib.run_copy_row_string (P := Tryd.prog) w1 28 9 ty 5 w.heap.size 0 (s.size + 1) (s.size + 1) s L.toArray 5 Tryd.underlying28 (by rw [hi]; simp [hz1]) hrow (by omega) (by simp [hL])
  have hne : s.size < L.length := by omega
  refine ⟨w1, _, L[s.size], by simpa using hrun, hcp, ⟨?_, below_setRow hb1 (Nat.le_refl _) _⟩⟩
  rw [setRow_heap w1 w.heap.size L.toArray _ 5 (0, 0) hrow]
  have e : L.drop (0 + s.size) = [L[s.size]] := by
    rw [Nat.zero_add, List.drop_eq_getElem_cons hne, List.drop_of_length_le (by omega)]
  simp only [List.take_zero, List.nil_append, e]
  rfl

theorem bc_length (l : List UInt8) : (bc l).length = l.length := by simp [bc]
theorem bc_last (s : ByteArray) (v0 : Value) (c : UInt8) : (bc s.data.toList ++ [v0]).set s.size (.int .u8 (c.toNat : Int)) = bc (s.data.toList ++ [c]) := by
  have hl : (bc s.data.toList).length = s.size := by rw [bc_length]; simp
  rw [List.set_append_right _ _ (by omega), hl, Nat.sub_self]
  simp [bc]
theorem bc_at (s : ByteArray) (v0 : Value) : (bc s.data.toList ++ [v0])[s.size]? = some v0 := by
  have hl : (bc s.data.toList).length = s.size := by rw [bc_length]; simp
  rw [List.getElem?_append_right (by omega), hl, Nat.sub_self]
  rfl

/-- 'string(b)' of a row that holds the bytes l. -/
theorem string_of_row (w : World) (g n : Nat) (l : List UInt8) (hn : l.length = n) (hrow : w.heap[g]? = some (.cells (bc l).toArray 5 (0, 0))) :
    (convert 28 9 (.slice (some ⟨g, 0, none⟩) n n)).run Tryd.prog w = .ok (.string ⟨l.toArray⟩) w := by
  have := run_convert_bytes_back (P := Tryd.prog) w 28 9 5 ⟨g, 0, none⟩ n l Tryd.underlying28 Tryd.underlying5 Tryd.underlying9 (fun j hj => by
    have e : (⟨g, 0, none⟩ : Addr).add j = ⟨g, j, none⟩ := by unfold Addr.add; split <;> simp_all
    rw [e]
    unfold World.cell?
    simp only [hrow]
    simp [bc, List.getElem?_eq_getElem hj])
  rw [hn] at this
  exact this
end Go.Proofs.Qxb6625877aDoor
