/-
  SEAT b6625877aD: 'zzc := make([]T, len(e)); copy(zzc, e)': the two runs as equations, handed to the walk; and what the new row reads as.
-/
import Derived.Test.Qxb6625877aDoorRows
import Derived.WalkKit
import Derived.WalkLawsBesides
import Derived.Laws.CopyOwn
import Derived.Lib.BufferWrite
import Derived.Lib.AtoiErrMem
namespace Go.Proofs.Qxb6625877aDoor
open Go.RowKit

theorem made_row {w1 : World} {base : Nat} {e : TypeId} {g n : Nat} {xs : List Value} (h : w1.ownsRow base e 1 (.slice (some ⟨g, 0, none⟩) n n) n xs) :
    ∃ L : List Value, L.length = n ∧ w1.heap[g]? = some (.cells L.toArray e (0, 0)) := by
  obtain ⟨_, h2⟩ := h
  rcases h2 with ⟨h, _⟩ | ⟨g', cap, cur, hv, _, hh, _, _, hcur, _⟩
  · cases h
  · simp only [Value.slice.injEq, Option.some.injEq, Addr.mk.injEq, and_true, true_and] at hv
    obtain ⟨rfl, rfl⟩ := hv
    exact ⟨cur.toList, by simpa using hcur, by simpa using hh⟩

/-- THE NEW ROW: block g holds the cells cs; from B on all blocks are the call's own. -/
structure NewRow (E : TypeId) (g : Nat) (cs : List Value) (w w2 : World) : Prop where
  row : w2.heap[g]? = some (.cells cs.toArray E (0, 0))
  old : Below w.heap.size w w2
theorem NewRow.cell {E : TypeId} {g : Nat} {cs : List Value} {w w2 : World} (h : NewRow E g cs w w2) (j : Nat) (v : Value) (hj : cs[j]? = some v) : w2.cell? ⟨g, j, none⟩ = some v := by
  unfold World.cell?
  simp only [h.row]
  simpa using hj
theorem NewRow.lt {E : TypeId} {g : Nat} {cs : List Value} {w w2 : World} (h : NewRow E g cs w w2) : g < w2.heap.size := by
  rcases Nat.lt_or_ge g w2.heap.size with h1 | h1
  · exact h1
  · have := h.row
    rw [Array.getElem?_eq_none h1] at this
    cases this

theorem make_copy {P : Program} (S E : TypeId) (i : TypeInfo) (z : Value) (hS : P.underlying S = some (.slice E)) (hi : P.info? E = some i) (hz : i.zero = some z) (hsz : i.size = 1)
    (w : World) (x : Addr) (len cap : Nat) (cs : List Value) (hl : cs.length = len) (hb : i.bytes * len ≤ 281474976710656) (hm : len ≤ 9223372036854775807)
    (hsrc : ∀ j v, cs[j]? = some v → w.cell? (x.add j) = some v) (hone : ∀ v ∈ cs, v.oneCell' = true) :
    ∃ w1 w2, (Instr.makeSlice S (.int .i64 len) (.int .i64 len)).run P w = .ok (.slice (some ⟨w.heap.size, 0, none⟩) len len) w1 ∧
      (∀ ty, (Builtin.copy_ #[S, S] ty #[.slice (some ⟨w.heap.size, 0, none⟩) len len, .slice (some x) len cap]).run P w1 = .ok (goInt len) w2) ∧ NewRow E w.heap.size cs w w2 := by
  obtain ⟨w1, hrun, hown, hgr⟩ := run_make_full (P := P) w w.heap.size S E i z 1 hS hi hz hsz .i64 .i64 len hb hm (Nat.le_refl _)
  obtain ⟨L, hL, hrow⟩ := made_row hown
  have hb1 : Below w.heap.size w w1 := (Below.refl _ _).grown hgr (Nat.le_refl _) (fun k hk => by cases hk)
  have hc1 : ∀ j v, cs[j]? = some v → w1.cell? (x.add j) = some v := fun j v hj => by
    have h0 := hsrc j v hj
    rw [hb1.cell (Lib.lt_of_cell h0)]; exact h0
  have hcp : ∀ ty, (Builtin.copy_ #[S, S] ty #[.slice (some ⟨w.heap.size, 0, none⟩) len len, .slice (some x) len cap]).run P w1 =
      .ok (goInt len) (w1.setRow w.heap.size (L.toArray.toList.take 0 ++ cs ++ L.toArray.toList.drop (0 + len)).toArray) := fun ty => by
    have := run_copy_row (P := P) w1 S S ty E w.heap.size 0 len len x len cap L.toArray E cs hS (by rw [hi]; simp [hsz]) hrow (by rw [hl]; simp) hc1 (by simp [hl, hL]) hone
    rw [hl] at this
    exact this
  refine ⟨w1, _, hrun, hcp, ⟨?_, ?_⟩⟩
  · rw [setRow_heap w1 w.heap.size L.toArray _ E (0, 0) hrow]
    simp [← hL]
  · exact below_setRow hb1 (Nat.le_refl _) _

/-! ### a slice of strings -/
/-- The strings as cells. -/
def sc (ss : List ByteArray) (len : Nat) : List Value := (ss.take len).map Value.string
theorem sc_length (ss : List ByteArray) (len : Nat) (h : len ≤ ss.length) : (sc ss len).length = len := by simp [sc, h]
theorem sc_at (ss : List ByteArray) (len : Nat) (h : len ≤ ss.length) (j : Nat) (hj : j < len) : (sc ss len)[j]? = some (.string (ss.getD j ByteArray.empty)) := by
  have hj' : j < ss.length := by omega
  simp [sc, List.getElem?_take_of_lt hj, List.getD, List.getElem?_eq_getElem hj']
theorem sc_lt (ss : List ByteArray) (len : Nat) (h : len ≤ ss.length) (j : Nat) (v : Value) (hv : (sc ss len)[j]? = some v) : j < len := by
  rcases Nat.lt_or_ge j len with h1 | h1
  · exact h1
  · rw [List.getElem?_eq_none (by rw [sc_length ss len h]; exact h1)] at hv
    cases hv
theorem sc_one (ss : List ByteArray) (len : Nat) : ∀ v ∈ sc ss len, v.oneCell' = true := by
  intro v hv
  simp only [sc, List.mem_map] at hv
  obtain ⟨_, _, rfl⟩ := hv
  rfl
theorem info9 : (Tryd.prog.info? 9).map (fun i => (i.zero, i.size, i.bytes)) = some (some (.string ByteArray.empty), 1, 16) := by kernel_rfl

/-- The copy of a slice of strings. -/
theorem copy_strings (w : World) (x : Addr) (len cap : Nat) (ss : List ByteArray) (hl : len ≤ ss.length) (hm : len ≤ 65536)
    (hc : ∀ j, j < len → w.cell? (x.add j) = some (.string (ss.getD j ByteArray.empty))) :
    ∃ w1 w2, (Instr.makeSlice 22 (.int .i64 len) (.int .i64 len)).run Tryd.prog w = .ok (.slice (some ⟨w.heap.size, 0, none⟩) len len) w1 ∧
      (∀ ty, (Builtin.copy_ #[22, 22] ty #[.slice (some ⟨w.heap.size, 0, none⟩) len len, .slice (some x) len cap]).run Tryd.prog w1 = .ok (goInt len) w2) ∧ NewRow 9 w.heap.size (sc ss len) w w2 := by
  obtain ⟨i0, hi, hz0, hz1, hz2⟩ := info_parts info9
  refine make_copy 22 9 i0 _ Tryd.underlying22 hi hz0 hz1 w x len cap (sc ss len) (sc_length ss len hl) (by rw [hz2]; omega) (by omega) (fun j v hj => ?_) (sc_one ss len)
  have hlt := sc_lt ss len hl j v hj
  rw [sc_at ss len hl j hlt] at hj
  cases hj
  exact hc j hlt
end Go.Proofs.Qxb6625877aDoor
