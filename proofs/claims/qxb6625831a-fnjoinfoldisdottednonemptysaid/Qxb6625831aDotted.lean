/-
  SEAT b6625831a: the walk of 'dottedNonEmpty': a loop in a loop, appending to a slice of the call's own.
-/
import Derived.Test.Qxb6625831aFoldWalks
import Derived.WalkSpells
import Derived.Laws.IdiomStrings
namespace Go.Proofs.Qxb6625831a
open Go.RowKit

theorem Try.info5 : (Try.prog.info? 5).map (fun i => (i.zero, i.size, i.bytes)) = some (some (.int .u8 0), 1, 1) := by kernel_rfl

/-- Bytes as cells. -/
def bl (l : List UInt8) : List Value := l.map fun b => .int .u8 (b.toNat : Int)
theorem bl_append (a b : List UInt8) : bl (a ++ b) = bl a ++ bl b := by simp [bl]
theorem bl_one (b : UInt8) : bl [b] = [.int .u8 (b.toNat : Int)] := rfl
theorem bl_length (l : List UInt8) : (bl l).length = l.length := by simp [bl]

/-- THE ROW OF BYTES THAT THE CALL OWNS holds l. -/
def Owns (B : Nat) (w wr : World) (v : Value) (l : List UInt8) : Prop := wr.ownsRow B 5 1 v l.length (bl l) ∧ Below B w wr
theorem owns_more {B : Nat} {w wr w1 : World} {v v' : Value} {l : List UInt8} {o : Obj} {c : UInt8} (h : Owns B w wr v l) (hB : B ≤ wr.heap.size)
    (h1 : w1.ownsRow B 5 1 v' (l.length + 1) (bl l ++ [.int .u8 (c.toNat : Int)])) (hg : (wr.alloc o).grownBy w1 v.ownBlock) : Owns B w w1 v' (l ++ [c]) := by
  refine ⟨?_, ?_⟩
  · rw [bl_append, bl_one]; simpa using h1
  · exact (h.2.alloc hB o).grown hg (by simp; omega) (fun k hk => (h.1.lt k hk).1)
theorem owns_size {B : Nat} {w wr : World} {v : Value} {l : List UInt8} (h : Owns B w wr v l) : w.heap.size ≤ wr.heap.size := h.2.size

/-- 'string(out)'. -/
theorem owns_string {B : Nat} {w wr : World} {v : Value} {l : List UInt8} (h : Owns B w wr v l) : (convert 27 9 v).run Try.prog wr = .ok (.string ⟨l.toArray⟩) wr := by
  obtain ⟨⟨_, h2⟩, _⟩ := h
  have h5 : Try.prog.underlying 5 = some (.int .u8) := Try.underlying5
  rcases h2 with ⟨rfl, hn⟩ | ⟨g, cap, cur, rfl, _, hh, hnc, _, hcur, htake⟩
  · have : l = [] := List.length_eq_zero_iff.1 hn
    subst this
    rw [run_convert_bytes_string wr 27 9 5 none 0 0 Try.underlying27 h5 Try.underlying9]
    simp [Conv.bytesToString]
    rfl
  · refine run_convert_bytes_back wr 27 9 5 ⟨g, 0, none⟩ cap l Try.underlying27 h5 Try.underlying9 (fun j hj => ?_)
    have e : (⟨g, 0, none⟩ : Addr).add j = ⟨g, j, none⟩ := by unfold Addr.add; split <;> simp_all
    rw [e]
    unfold World.cell?
    simp only [hh]
    have hg : (cur.toList.take (l.length * 1))[j]? = (bl l)[j]? := by rw [htake]
    rw [List.getElem?_take_of_lt (by omega)] at hg
    simp [bl, List.getElem?_eq_getElem hj] at hg
    simpa using hg

/-! ### what a round does to the names joined so far -/
theorem FL_keep {ss : List ByteArray} {k : Nat} {s : ByteArray} (h : F ss (k + 1) = J (F ss k) s) (hs : s.size = 0) : (F ss (k + 1)).toList = (F ss k).toList := by
  have e : s.toList = [] := List.length_eq_zero_iff.1 (by rw [length_toList]; exact hs)
  rw [h, J_toList, e, JL_nil_right]
theorem FL_first {ss : List ByteArray} {k : Nat} {s : ByteArray} (h : F ss (k + 1) = J (F ss k) s) (hk : (F ss k).toList = []) : (F ss (k + 1)).toList = s.toList := by
  rw [h, J_toList, hk, JL_nil_left]
theorem FL_more {ss : List ByteArray} {k : Nat} {s : ByteArray} (h : F ss (k + 1) = J (F ss k) s) (hk : (F ss k).toList ≠ []) (hs : s.size ≠ 0) : (F ss (k + 1)).toList = (F ss k).toList ++ [46] ++ s.toList := by
  have e : s.toList ≠ [] := fun h0 => hs (by rw [← length_toList, h0]; rfl)
  rw [h, J_toList]
  simp [JL, hk, e]
theorem F_mk (a : ByteArray) : (⟨a.toList.toArray⟩ : ByteArray) = a := by
  apply eq_of_toList; rw [ByteArray.toList_mk]
theorem toList_take_snoc (s : ByteArray) (k : Nat) (h : k < s.size) : s.toList.take (k + 1) = s.toList.take k ++ [s[k]] := by
  rw [ByteArray.toList_eq, List.take_succ_eq_append_getElem (by simpa using h)]; rfl

theorem seen_some {s : ByteArray} (h : ¬ s.size = 0) : Hid (true = !s.toList.isEmpty) := by
  have e : s.toList ≠ [] := fun h0 => h (by rw [← length_toList, h0]; rfl)
  show true = !s.toList.isEmpty
  cases hs : s.toList with
  | nil => exact absurd hs e
  | cons => rfl

theorem hid_ex (x : List UInt8) : ∃ L, Hid (L = x) := ⟨x, Eq.refl x⟩
theorem seen_app (a c : List UInt8) : Hid (true = !(a ++ [46] ++ c).isEmpty) := by
  show true = !(a ++ [46] ++ c).isEmpty
  simp
theorem empty_of {l : List UInt8} (h : Hid (false = !l.isEmpty)) : Hid (l = []) := by
  have := h.out
  show l = []
  simpa using this.symm
theorem some_of {l : List UInt8} (h : Hid (true = !l.isEmpty)) : Hid (¬ l = []) := by
  have := h.out
  show ¬ l = []
  simpa using this.symm

set_option maxHeartbeats 1000000 in
theorem dotted_any (b off len cap : Nat) (ss : List ByteArray) (w : World) (hlen : len ≤ ss.length) (hT : len + T ss len ≤ 1048576) (hb : b < w.heap.size)
    (hc : ∀ j, j < len → w.cell? ⟨b, off + j, none⟩ = some (.string (ss.getD j ByteArray.empty))) :
    Calls Try.prog 7 #[.slice (some ⟨b, off, none⟩) len cap] w fun e w' => e = .returned (.string (F ss len)) ∧ Below w.heap.size w w' := by
  obtain ⟨i0, hi, hz0, hz1, hz2⟩ := info_parts Try.info5
  go_enter Try.func7, Try.ntmps7
  go_wp2
  go_loopw [3, 4, 5] (fun v sn i wr => ∃ k : Nat, k ≤ len ∧ i = .int .i64 k ∧ ∃ q : Bool, sn = .bool q ∧ Hid (q = !(F ss k).toList.isEmpty) ∧ Owns w.heap.size w wr v (F ss k).toList) (fun _ _ i _ => len - (intOf i).toNat)
  case atStart => exact ⟨0, Nat.zero_le _, rfl, false, rfl, by rw [F_zero, toList_nil]; rfl, by rw [F_zero, toList_nil]; exact ⟨World.ownsRow_made w #[] 0 (Nat.le_refl _) (by decide) rfl, (Below.refl _ _).alloc (Nat.le_refl _) _⟩⟩
  case round =>
    obtain ⟨k, hk, rfl, q, rfl, HQ, hown⟩ := hrel
    obtain ⟨wo, rfl⟩ : ∃ wo : World, wo = wr := ⟨_, rfl⟩
    have hwo := owns_size hown
    by_cases hlt : k < len
    · have hcell := (hown.2.cell (p := ⟨b, off + k, none⟩) hb).trans (hc k hlt)
      have hfs := F_succ ss k (by omega)
      have hts := T_succ ss k (by omega)
      have hsz := F_size ss k (by omega)
      have hmo := T_mono ss (k + 1) len (by omega)
      have hmo2 := T_mono ss k len (by omega)
      have hFl := length_toList (F ss k)
      clear hc
      generalize ss.getD k ByteArray.empty = s at hcell hfs hts
      have hbd : (F ss k).size + s.size + 1 ≤ 2097152 := by omega
      have HF : Hid (F ss (k + 1) = J (F ss k) s) := hfs
      have HL : Hid ((F ss k).toList.length = (F ss k).size) := hFl
      clear hfs hts hsz hmo hmo2 hFl
      by_cases hs0 : s.size = 0
      · have hsb : ((s.size : Int) == 0) = true := by rw [beq_iff_eq]; omega
        have HS : Hid (s.size = 0) := hs0
        clear hs0
        go_wp2
        go_roundw
        case rel => exact ⟨k + 1, by omega, by go_num, q, rfl, by rw [FL_keep HF.out HS.out]; exact HQ, by rw [FL_keep HF.out HS.out]; exact hown⟩
        case measure => simp [intOf]; omega
      · have hsb : ((s.size : Int) == 0) = false := by rw [beq_eq_false_iff_ne]; omega
        cases q with
        | false =>
          have HF0 : Hid ((F ss k).toList = []) := empty_of HQ
          have hown0 : Owns w.heap.size w wo u3 ([] : List UInt8) := by rw [← HF0.out]; exact hown
          go_wp2
          go_loopw [3, 7] (fun v j wr => ∃ m : Nat, m ≤ s.size ∧ j = .int .i64 m ∧ Owns w.heap.size w wr v (([] : List UInt8) ++ s.toList.take m)) (fun _ j _ => s.size - (intOf j).toNat)
          case atStart => exact ⟨0, Nat.zero_le _, rfl, by simpa using hown0⟩
          case round =>
            obtain ⟨m, hm, rfl, hin⟩ := hrel
            have hwi := owns_size hin
            by_cases hml : m < s.size
            · have hll : (([] : List UInt8) ++ s.toList.take m).length ≤ 2097152 := by
                have h1 := length_toList s
                have h2 := HL.out
                simp; omega
              obtain ⟨L, HLL⟩ := hid_ex (([] : List UInt8) ++ s.toList.take m)
              rw [← HLL.out] at hll hin
              have hin1 := hin.1
              go_wp2_with (at_builtin; refine wpList_append_own _ rfl (.tmp 32) (.tmp 36) 27 rfl w.heap.size 5 i0 (.int .u8 0) 1 1 Try.underlying27 hi hz0 hz1 hz2 rfl (by decide) _ _ _ rfl (hin1.alloc _) ⟨wr.heap.size, 0, none⟩ 1 1 [.int .u8 (s[m].toNat : Int)] rfl rfl (cell_one_new _ _ _) ?c2Ia ?c3Ia ?c4Ia ?c5Ia ?_)
              case c2Ia => intro u hu; simp at hu; subst hu; rfl
              case c3Ia => unfold maxLen; omega
              case c4Ia => omega
              case c5Ia => simp; omega
              intro v' w1 hown' hgrow _
              have R := owns_more hin (by omega) hown' hgrow
              clear hown' hgrow hin hin1
              go_wp2
              go_roundw
              case rel => exact ⟨m + 1, by omega, by go_num, by rw [toList_take_snoc s m hml, ← List.append_assoc, ← HLL.out]; exact R⟩
              case measure => simp [intOf]; omega
            · have e : m = s.size := by omega
              subst e
              have hfull : s.toList.take s.size = s.toList := List.take_of_length_le (by rw [length_toList]; exact Nat.le_refl _)
              rw [hfull] at hin
              clear hfull
              go_wp2
              go_roundw
              case rel => exact ⟨k + 1, by omega, by go_num, true, rfl, (by rw [FL_first HF.out HF0.out]; exact seen_some hs0), by rw [FL_first HF.out HF0.out]; exact hin⟩
              case measure => simp [intOf]; omega
        | true =>
          have HF0 : Hid (¬ (F ss k).toList = []) := some_of HQ
          have hll : (F ss k).toList.length + 1 ≤ 2097152 := by have := HL.out; omega
          have hown1 := hown.1
          go_wp2_with (at_builtin; refine wpList_append_own _ rfl (.tmp 23) (.tmp 24) 27 rfl w.heap.size 5 i0 (.int .u8 0) 1 1 Try.underlying27 hi hz0 hz1 hz2 rfl (by decide) _ _ _ rfl (hown1.alloc _) ⟨wo.heap.size, 0, none⟩ 1 1 [.int .u8 46] rfl rfl (cell_one_new _ _ _) ?c2D ?c3D ?c4D ?c5D ?_)
          case c2D => intro u hu; simp at hu; subst hu; rfl
          case c3D => unfold maxLen; omega
          case c4D => omega
          case c5D => simp; omega
          intro v' w1 hown' hgrow _
          have hdot := owns_more (c := 46) hown (by omega) hown' hgrow
          clear hown' hgrow hown hown1
          go_wp2
          go_loopw [3, 7] (fun v j wr => ∃ m : Nat, m ≤ s.size ∧ j = .int .i64 m ∧ Owns w.heap.size w wr v ((F ss k).toList ++ [46] ++ s.toList.take m)) (fun _ j _ => s.size - (intOf j).toNat)
          case atStart => exact ⟨0, Nat.zero_le _, rfl, by simpa using hdot⟩
          case round =>
            obtain ⟨m, hm, rfl, hin⟩ := hrel
            have hwi := owns_size hin
            by_cases hml : m < s.size
            · have hll : ((F ss k).toList ++ [46] ++ s.toList.take m).length ≤ 2097152 := by
                have h1 := length_toList s
                have h2 := HL.out
                simp; omega
              obtain ⟨L, HLL⟩ := hid_ex ((F ss k).toList ++ [46] ++ s.toList.take m)
              rw [← HLL.out] at hll hin
              have hin1 := hin.1
              go_wp2_with (at_builtin; refine wpList_append_own _ rfl (.tmp 32) (.tmp 36) 27 rfl w.heap.size 5 i0 (.int .u8 0) 1 1 Try.underlying27 hi hz0 hz1 hz2 rfl (by decide) _ _ _ rfl (hin1.alloc _) ⟨wr.heap.size, 0, none⟩ 1 1 [.int .u8 (s[m].toNat : Int)] rfl rfl (cell_one_new _ _ _) ?c2Ib ?c3Ib ?c4Ib ?c5Ib ?_)
              case c2Ib => intro u hu; simp at hu; subst hu; rfl
              case c3Ib => unfold maxLen; omega
              case c4Ib => omega
              case c5Ib => simp; omega
              intro v' w1 hown' hgrow _
              have R := owns_more hin (by omega) hown' hgrow
              clear hown' hgrow hin hin1
              go_wp2
              go_roundw
              case rel => exact ⟨m + 1, by omega, by go_num, by rw [toList_take_snoc s m hml, ← List.append_assoc, ← HLL.out]; exact R⟩
              case measure => simp [intOf]; omega
            · have e : m = s.size := by omega
              subst e
              have hfull : s.toList.take s.size = s.toList := List.take_of_length_le (by rw [length_toList]; exact Nat.le_refl _)
              rw [hfull] at hin
              clear hfull
              go_wp2
              go_roundw
              case rel => exact ⟨k + 1, by omega, by go_num, true, rfl, (by rw [FL_more HF.out HF0.out hs0]; exact seen_app _ _), by rw [FL_more HF.out HF0.out hs0]; exact hin⟩
              case measure => simp [intOf]; omega
    · have e : k = len := by omega
      subst e
      have hcv := owns_string hown
      rw [F_mk] at hcv
      have hbel := hown.2
      clear hc
      go_wp2
      go_ret
      exact ⟨rfl, hbel⟩
end Go.Proofs.Qxb6625831a
