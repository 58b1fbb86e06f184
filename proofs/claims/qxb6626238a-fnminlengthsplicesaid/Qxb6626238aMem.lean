/-
  SEAT b6626238a: slices of runes that the call makes, copies and appends to: the runs as equations, handed to the walk; and the count of the characters of a pattern.
-/
import Derived.Test.Qxb6626238aRows
import Derived.WalkKit
import Derived.WalkSpells
import Derived.WalkLawsBesides
import Derived.Laws.CopyOwn
import Derived.Laws.IdiomStrings
import Derived.Lib.AtoiErrMem
namespace Go.Proofs.Qxb6626238a
open Go.RowKit

/-! ### the plain function -/
/-- How many elements are not the wildcard for any run. -/
def cnt (zs : List Int) : Nat := (zs.filter fun z => z != -1).length
theorem cnt_append (a b : List Int) : cnt (a ++ b) = cnt a + cnt b := by simp [cnt]
theorem cnt_nil : cnt [] = 0 := rfl
theorem cnt_one_yes (r : Int) (h : r ≠ -1) : cnt [r] = 1 := by simp [cnt, h]
theorem cnt_one_no (r : Int) (h : r = -1) : cnt [r] = 0 := by simp [cnt, h]
theorem cnt_le (zs : List Int) : cnt zs ≤ zs.length := List.length_filter_le _ _
theorem take_snoc (l : List Int) (k : Nat) (h : k < l.length) : l.take (k + 1) = l.take k ++ [l.getD k 0] := by
  rw [List.take_succ_eq_append_getElem h]
  simp [List.getD, List.getElem?_eq_getElem h]
theorem cnt_take_yes (l : List Int) (k : Nat) (h : k < l.length) (hr : l.getD k 0 ≠ -1) : cnt (l.take (k + 1)) = cnt (l.take k) + 1 := by
  rw [take_snoc l k h, cnt_append, cnt_one_yes _ hr]
theorem cnt_take_no (l : List Int) (k : Nat) (h : k < l.length) (hr : l.getD k 0 = -1) : cnt (l.take (k + 1)) = cnt (l.take k) := by
  rw [take_snoc l k h, cnt_append, cnt_one_no _ hr]; rfl
theorem cnt_split (l : List Int) (k : Nat) : cnt (l.take k) + cnt (l.drop k) = cnt l := by
  rw [← cnt_append, List.take_append_drop]

/-! ### cells -/
def rc (zs : List Int) : List Value := zs.map (Value.int .i32)
theorem rc_length (zs : List Int) : (rc zs).length = zs.length := by simp [rc]
theorem rc_append (a b : List Int) : rc (a ++ b) = rc a ++ rc b := by simp [rc]
theorem rc_at (zs : List Int) (j : Nat) (h : j < zs.length) : (rc zs)[j]? = some (.int .i32 (zs.getD j 0)) := by
  simp [rc, List.getD, List.getElem?_eq_getElem h]
theorem rc_lt (zs : List Int) (j : Nat) (v : Value) (h : (rc zs)[j]? = some v) : j < zs.length := by
  rcases Nat.lt_or_ge j zs.length with h1 | h1
  · exact h1
  · rw [List.getElem?_eq_none (by rw [rc_length]; exact h1)] at h
    cases h
theorem rc_one (zs : List Int) : ∀ v ∈ rc zs, v.oneCell' = true := by
  intro v hv
  simp only [rc, List.mem_map] at hv
  obtain ⟨_, _, rfl⟩ := hv
  rfl
theorem info21 : (Try.prog.info? 21).map (fun i => (i.zero, i.size, i.bytes)) = some (some (.int .i32 0), 1, 4) := by kernel_rfl

theorem add_at (g o j : Nat) : (⟨g, o, none⟩ : Addr).add j = ⟨g, o + j, none⟩ := by unfold Addr.add; split <;> simp_all

/-- A row of cells, at block g from place 0 on: as a slice reads it. -/
def RowAt (w : World) (g : Nat) (zs : List Int) : Prop := g < w.heap.size ∧ ∀ j, j < zs.length → w.cell? ⟨g, j, none⟩ = some (.int .i32 (zs.getD j 0))
theorem RowAt.below {w w' : World} {g : Nat} {zs : List Int} {B : Nat} (h : RowAt w g zs) (hb : Below B w w') (hg : g < B) : RowAt w' g zs :=
  ⟨Nat.lt_of_lt_of_le h.1 hb.size, fun j hj => (hb.cell (p := ⟨g, j, none⟩) hg).trans (h.2 j hj)⟩

theorem made_row {w1 : World} {base : Nat} {e : TypeId} {g n : Nat} {xs : List Value} (h : w1.ownsRow base e 1 (.slice (some ⟨g, 0, none⟩) n n) n xs) :
    ∃ L : List Value, L.length = n ∧ w1.heap[g]? = some (.cells L.toArray e (0, 0)) := by
  obtain ⟨_, h2⟩ := h
  rcases h2 with ⟨h, _⟩ | ⟨g', cap, cur, hv, _, hh, _, _, hcur, _⟩
  · cases h
  · simp only [Value.slice.injEq, Option.some.injEq, Addr.mk.injEq, and_true, true_and] at hv
    obtain ⟨rfl, rfl⟩ := hv
    exact ⟨cur.toList, by simpa using hcur, by simpa using hh⟩

/-- 'zzc := make([]rune, len(p)); copy(zzc, p)'. -/
theorem copy_runes (w : World) (x : Addr) (cap : Nat) (zs : List Int) (hm : zs.length ≤ 1048576) (hc : ∀ j, j < zs.length → w.cell? (x.add j) = some (.int .i32 (zs.getD j 0))) :
    ∃ w1 w2, (Instr.makeSlice 22 (.int .i64 zs.length) (.int .i64 zs.length)).run Try.prog w = .ok (.slice (some ⟨w.heap.size, 0, none⟩) zs.length zs.length) w1 ∧
      (∀ ty, (Builtin.copy_ #[22, 22] ty #[.slice (some ⟨w.heap.size, 0, none⟩) zs.length zs.length, .slice (some x) zs.length cap]).run Try.prog w1 = .ok (goInt zs.length) w2) ∧
      RowAt w2 w.heap.size zs ∧ Below w.heap.size w w2 := by
  obtain ⟨i0, hi, hz0, hz1, hz2⟩ := info_parts info21
  obtain ⟨w1, hrun, hown, hgr⟩ := run_make_full (P := Try.prog) w w.heap.size 22 21 i0 _ 1 Try.underlying22 hi hz0 hz1 .i64 .i64 zs.length (by rw [hz2]; omega) (by unfold maxLen; omega) (Nat.le_refl _)
  obtain ⟨L, hL, hrow⟩ := made_row hown
  have hb1 : Below w.heap.size w w1 := (Below.refl _ _).grown hgr (Nat.le_refl _) (fun k hk => by cases hk)
  have hc1 : ∀ j v, (rc zs)[j]? = some v → w1.cell? (x.add j) = some v := fun j v hj => by
    have hlt := rc_lt zs j v hj
    rw [rc_at zs j hlt] at hj
    cases hj
    have h0 := hc j hlt
    rw [hb1.cell (Lib.lt_of_cell h0)]; exact h0
  have hcp : ∀ ty, (Builtin.copy_ #[22, 22] ty #[.slice (some ⟨w.heap.size, 0, none⟩) zs.length zs.length, .slice (some x) zs.length cap]).run Try.prog w1 =
      .ok (goInt zs.length) (w1.setRow w.heap.size (L.toArray.toList.take 0 ++ rc zs ++ L.toArray.toList.drop (0 + zs.length)).toArray) := fun ty => by
    have := run_copy_row (P := Try.prog) w1 22 22 ty 21 w.heap.size 0 zs.length zs.length x zs.length cap L.toArray 21 (rc zs) Try.underlying22 (by rw [hi]; simp [hz1]) hrow (by rw [rc_length]; simp) hc1 (by simp [rc_length, hL]) (rc_one zs)
    rw [rc_length] at this
    exact this
  refine ⟨w1, _, hrun, hcp, ⟨?_, fun j hj => ?_⟩, below_setRow hb1 (Nat.le_refl _) _⟩
  · rw [size_setRow]
    rcases Nat.lt_or_ge w.heap.size w1.heap.size with h | h
    · exact h
    · rw [Array.getElem?_eq_none h] at hrow
      cases hrow
  · rw [cell_setRow_same w1 w.heap.size j L.toArray _ 21 (0, 0) hrow]
    have e : (L.toArray.toList.take 0 ++ rc zs ++ L.toArray.toList.drop (0 + zs.length)) = rc zs := by simp [← hL]
    rw [e]
    simpa using rc_at zs j hj

/-- THE SLICE v THAT THE CALL MADE holds zs; nothing below B has turned since w0. -/
def Own (B : Nat) (w0 w : World) (v : Value) (zs : List Int) : Prop := w.ownsRow B 21 1 v zs.length (rc zs) ∧ Below B w0 w ∧ B ≤ w.heap.size

/-- 'make([]rune, 0, c)'. -/
theorem make_room (w : World) (c : Nat) (hc : c ≤ 4194304) :
    ∃ w1, (Instr.makeSlice 22 (.int .i64 0) (.int .i64 (c : Int))).run Try.prog w = .ok (.slice (some ⟨w.heap.size, 0, none⟩) 0 c) w1 ∧ Own w.heap.size w w1 (.slice (some ⟨w.heap.size, 0, none⟩) 0 c) [] := by
  obtain ⟨i0, hi, hz0, hz1, hz2⟩ := info_parts info21
  obtain ⟨w1, hrun, hown, hgr⟩ := run_make_own (P := Try.prog) w w.heap.size 22 21 i0 _ 1 Try.underlying22 hi hz0 hz1 .i64 .i64 c (by rw [hz2]; omega) (by unfold maxLen; omega) (Nat.le_refl _)
  exact ⟨w1, hrun, hown, (Below.refl _ _).grown hgr (Nat.le_refl _) (fun k hk => by cases hk), hgr.size⟩

/-- 'append(v, src...)', src an address with cells behind it. -/
theorem append_some {B : Nat} {w0 w : World} {v : Value} {xs : List Int} (h : Own B w0 w v xs) (a : Addr) (c : Nat) (ys : List Int) (hy : ∀ j, j < ys.length → w.cell? (a.add j) = some (.int .i32 (ys.getD j 0)))
    (hb : xs.length + ys.length ≤ 4194304) :
    ∃ v' w', (Builtin.append_ #[22, 22] 22 #[v, .slice (some a) ys.length c]).run Try.prog w = .ok v' w' ∧ Own B w0 w' v' (xs ++ ys) := by
  obtain ⟨i0, hi, hz0, hz1, hz2⟩ := info_parts info21
  obtain ⟨v', w', hrun, hown, hgr, _⟩ := run_append_own (P := Try.prog) w B 22 22 21 i0 _ 1 4 Try.underlying22 hi hz0 hz1 hz2 rfl (by decide) v xs.length (rc xs) h.1 a ys.length c (rc ys) (by rw [rc_length]; omega) (fun j u hj => by
    have hlt := rc_lt ys j u hj
    rw [rc_at ys j hlt] at hj
    cases hj
    exact hy j hlt) (rc_one ys) (by unfold maxLen; omega) (by omega) h.2.2
  refine ⟨v', w', hrun, ?_, h.2.1.grown hgr h.2.2 (fun k hk => (h.1.lt k hk).1), Nat.le_trans h.2.2 hgr.size⟩
  rw [List.length_append, rc_append]
  exact hown
/-- 'append(v, nil...)'. -/
theorem append_none {B : Nat} {w0 w : World} {v : Value} {xs : List Int} (h : Own B w0 w v xs) : (Builtin.append_ #[22, 22] 22 #[v, .slice none 0 0]).run Try.prog w = .ok v w := by
  obtain ⟨i0, hi, hz0, hz1, hz2⟩ := info_parts info21
  exact run_append_owned_none (P := Try.prog) (w := w) B 22 22 21 i0 1 Try.underlying22 hi v xs.length (rc xs) h.1

/-- What an owned slice is, written out. -/
theorem Own.form {B : Nat} {w0 w : World} {v : Value} {zs : List Int} (h : Own B w0 w v zs) : (v = .slice none 0 0 ∧ zs = []) ∨ ∃ g cap, v = .slice (some ⟨g, 0, none⟩) zs.length cap ∧ RowAt w g zs ∧ B ≤ g := by
  rcases h.1.2 with ⟨rfl, hn⟩ | ⟨g, cap, cur, rfl, hg, hh, hnc, _, hcur, htake⟩
  · exact .inl ⟨rfl, List.length_eq_zero_iff.1 hn⟩
  · refine .inr ⟨g, cap, rfl, ⟨?_, fun j hj => ?_⟩, hg⟩
    · rcases Nat.lt_or_ge g w.heap.size with h | h
      · exact h
      · rw [Array.getElem?_eq_none h] at hh
        cases hh
    · have := rc_at zs j hj
      rw [← htake, List.getElem?_take_of_lt (by omega)] at this
      unfold World.cell?
      simp only [hh]
      simpa using this

/-- THE LAW AT AN append WHOSE RUN IS KNOWN: for 'go_wp2_with (at_builtin; refine ..)'. -/
theorem wpList_append_eq {P : Program} {w : World} {ops : Array Oper} {rest : List Oper} {o : Oper} {a : Act} {Q : Exit → Act → World → Prop} (hgd : o.guard = none) (s x : Operand) (t : TypeId)
    (ho : o.op = .call { callee := .builtin .append, args := #[s, x], argTypes := #[t, t] }) (v sv v' : Value) (w' : World) (ty : TypeId)
    (hrun : (Builtin.append_ #[t, t] ty #[v, sv]).run P w = .ok v' w') (hty : o.type = ty) (hs : a.eval s = v) (hx : a.eval x = sv)
    (h : wpList P ops Q rest (a.put o.dst v') w') : wpList P ops Q (o :: rest) a w := by
  refine wpList_plain hgd fun K hK => ?_
  subst hty
  unfold Oper.wp
  simp [execOp, ho, resolve, invoke, builtin, hs, hx, hrun, Result.andThen]
  exact hK _ _ h

theorem Own.alloc {B : Nat} {w0 w : World} {v : Value} {zs : List Int} (h : Own B w0 w v zs) (o : Obj) : Own B w0 (w.alloc o) v zs :=
  ⟨h.1.alloc o, h.2.1.alloc h.2.2 o, by simp; exact Nat.le_succ_of_le h.2.2⟩
end Go.Proofs.Qxb6626238a
