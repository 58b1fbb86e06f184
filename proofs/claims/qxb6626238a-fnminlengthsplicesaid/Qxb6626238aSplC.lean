/-
  SEAT b6626238a: the walk of 'FnMinLengthSplice': SplC.
-/
import Derived.Test.Qxb6626238aSpl0
namespace Go.Proofs.Qxb6626238a
open Go.RowKit

set_option maxHeartbeats 2000000 in
theorem spl_nil_row (y : Addr) (capq m : Nat) (zq : List Int) (s : ByteArray) (w : World) (hm : zq.length = m) (hcq : ∀ j, j < m → w.cell? (y.add j) = some (.int .i32 (zq.getD j 0))) (h1 : 4 * 0 + 4 * m + s.size ≤ 1048576) :
    Calls Try.prog 4 #[.slice none 0 0, .slice (some y) m capq, .string s, .int .i64 0] w fun e w' => e = .returned (.bool true) ∧ Below w.heap.size w w' := by
  have hcq2 := hcq
  obtain ⟨w3, w4, hmk2, hcp2, rowQ, belQ⟩ := copy_runes w y capq zq (by omega) (fun j hj => hcq2 j (by omega))
  obtain ⟨ls, capL, w5, hcv, rowL, belL, hcl, hll⟩ := conv_runes w4 s (by omega)
  have rowQ5 := rowQ.below belL rowQ.1
  obtain ⟨w6, hmkA, own6⟩ := make_room w5 (zq.length) (by omega)
  have ha7 := append_none own6
  have qown6 := rowQ5.below own6.2.1 rowQ5.1
  obtain ⟨v8, w8, ha8, own8⟩ := append_some own6 ⟨w.heap.size, 0, none⟩ zq.length (zq) (fun j hj => by
    rw [add_at, Nat.zero_add, qown6.2 j hj]) (by simp; omega)
  have ha9 := append_none own8
  have rowQA := rowQ5.below own8.2.1 rowQ5.1
  have rowLA := rowL.below own8.2.1 rowL.1
  obtain ⟨w10, hmkB, own10⟩ := make_room w8 (ls.length) (by omega)
  have ha11 := append_none own10
  have lown10 := rowLA.below own10.2.1 rowLA.1
  obtain ⟨v12, w12, ha12, own12⟩ := append_some own10 ⟨w4.heap.size, 0, none⟩ capL (ls) (fun j hj => by
    rw [add_at, Nat.zero_add, lown10.2 j hj]) (by simp; omega)
  have ha13 := append_none own12
  have rowQB := rowQA.below own12.2.1 rowQA.1
  have rowLB := rowLA.below own12.2.1 rowLA.1
  have hB5 : Below w.heap.size w w5 := by
    have hq : Below w.heap.size w w4 := belQ
    exact hq.trans (belL.mono hq.size)
  have hBA : Below w.heap.size w w8 := hB5.trans (own8.2.1.mono hB5.size)
  have hBB : Below w.heap.size w w12 := hBA.trans (own12.2.1.mono hBA.size)
  have HMA := hide_min (min_own own8 (show (([] ++ zq)).length ≤ 4194304 by simp <;> omega) own12.2.1 (Nat.le_refl _))
  have HMB := hide_min (min_own own12 (show (([] ++ ls)).length ≤ 4194304 by simp <;> omega) (Below.refl _ _) (Nat.le_refl _))
  have HA : Hid (cnt (([] ++ zq)) = cnt zq) := by show cnt (([] ++ zq)) = cnt zq; simp only [cnt_append, cnt_nil]; omega
  have HB : Hid (cnt (([] ++ ls)) = ls.length) := by show cnt (([] ++ ls)) = ls.length; simp only [cnt_append, cnt_nil]; omega
  have HL : Hid (cnt ls = ls.length) := hcl
  obtain ⟨XA, HXA⟩ := hid_list (([] ++ zq))
  rw [← HXA.out] at HMA HA
  obtain ⟨XB, HXB⟩ := hid_list (([] ++ ls))
  rw [← HXB.out] at HMB HB
  have hcQ := cnt_le zq
  rw [hm] at hmk2 hcp2 hmkA ha7 ha8 hcQ
  clear own6 qown6 own8 own10 lown10 own12 hcq hcq2 rowQ rowQ5 rowQA belQ rowL rowLA belL hcl hB5 hBA HXB HXA
  go_enter Try.func4, Try.ntmps4
  go_wp2_with (first | (go_at_call 7; refine (bytesS_yes _ _ _ _ _ _ _ _ (by omega) _).mono ?_; rintro e w' ⟨rfl, rfl⟩) | (at_builtin; refine wpList_append_eq rfl (.tmp 81) (.tmp 84) 22 rfl _ _ _ _ _ ha7 rfl rfl rfl ?_) | (at_builtin; refine wpList_append_eq rfl (.tmp 86) (.tmp 87) 22 rfl _ _ _ _ _ ha8 rfl rfl rfl ?_) | (at_builtin; refine wpList_append_eq rfl (.tmp 89) (.tmp 92) 22 rfl _ _ _ _ _ ha9 rfl rfl rfl ?_) | (at_builtin; refine wpList_append_eq rfl (.tmp 100) (.tmp 103) 22 rfl _ _ _ _ _ ha11 rfl rfl rfl ?_) | (at_builtin; refine wpList_append_eq rfl (.tmp 105) (.tmp 106) 22 rfl _ _ _ _ _ ha12 rfl rfl rfl ?_) | (at_builtin; refine wpList_append_eq rfl (.tmp 108) (.tmp 111) 22 rfl _ _ _ _ _ ha13 rfl rfl rfl ?_))
  refine (min_nil _).mono ?_
  rintro e w0 ⟨rfl, rfl⟩
  go_wp2_with fail
  refine (min_row w'.heap.size m m zq _ hm (by omega) rowQB).mono ?_
  rintro e w0 ⟨rfl, rfl⟩
  go_wp2_with fail
  refine (min_row w4.heap.size ls.length capL ls _ rfl (by omega) rowLB).mono ?_
  rintro e w0 ⟨rfl, rfl⟩
  rw [HL.out]
  go_wp2_with fail
  refine (HMA.out).mono ?_
  rintro e w0 ⟨rfl, rfl⟩
  rw [HA.out]
  go_wp2_with fail
  refine (HMB.out).mono ?_
  rintro e w0 ⟨rfl, rfl⟩
  rw [HB.out]
  go_wp2_with fail
  go_ret
  exact ⟨rfl, hBB⟩
end Go.Proofs.Qxb6626238a
