/-
  SEAT b6626238a: the walk of 'FnMinLengthSplice': SplB.
-/
import Derived.Test.Qxb6626238aSpl0
namespace Go.Proofs.Qxb6626238a
open Go.RowKit

set_option maxHeartbeats 2000000 in
theorem spl_end_row (x : Addr) (capp n : Nat) (zp : List Int) (y : Addr) (capq m : Nat) (zq : List Int) (s : ByteArray) (w : World) (hn : zp.length = n) (hcp : ∀ j, j < n → w.cell? (x.add j) = some (.int .i32 (zp.getD j 0))) (hm : zq.length = m) (hcq : ∀ j, j < m → w.cell? (y.add j) = some (.int .i32 (zq.getD j 0))) (h1 : 4 * n + 4 * m + s.size ≤ 1048576) :
    Calls Try.prog 4 #[.slice (some x) n capp, .slice (some y) m capq, .string s, .int .i64 n] w fun e w' => e = .returned (.bool true) ∧ Below w.heap.size w w' := by
  obtain ⟨w1, w2, hmk1, hcp1, rowP, belP⟩ := copy_runes w x capp zp (by omega) (fun j hj => hcp j (by omega))
  have hcq2 : ∀ j, j < m → w2.cell? (y.add j) = some (.int .i32 (zq.getD j 0)) := fun j hj => (belP.cell (Lib.lt_of_cell (hcq j hj))).trans (hcq j hj)
  obtain ⟨w3, w4, hmk2, hcp2, rowQ, belQ⟩ := copy_runes w2 y capq zq (by omega) (fun j hj => hcq2 j (by omega))
  obtain ⟨ls, capL, w5, hcv, rowL, belL, hcl, hll⟩ := conv_runes w4 s (by omega)
  have rowP4 := rowP.below belQ rowP.1
  have rowP5 := rowP4.below belL rowP4.1
  have rowQ5 := rowQ.below belL rowQ.1
  obtain ⟨w6, hmkA, own6⟩ := make_room w5 (zp.length + zq.length) (by omega)
  have hlk : (zp.take n).length = n := by rw [List.length_take]; omega
  have hld : (zp.drop n).length = 0 := by rw [List.length_drop]; omega
  have rown6 := rowP5.below own6.2.1 rowP5.1
  obtain ⟨v7, w7, ha7, own7⟩ := append_some own6 ⟨w.heap.size, 0, none⟩ zp.length (zp.take n) (fun j hj => by
    rw [add_at, Nat.zero_add, rown6.2 j (by omega)]
    congr 2
    simp [List.getD, List.getElem?_take_of_lt (show j < n by omega)]) (by simp; omega)
  rw [hlk] at ha7
  have qown7 := rowQ5.below own7.2.1 rowQ5.1
  obtain ⟨v8, w8, ha8, own8⟩ := append_some own7 ⟨w2.heap.size, 0, none⟩ zq.length (zq) (fun j hj => by
    rw [add_at, Nat.zero_add, qown7.2 j hj]) (by simp; omega)
  have town8 := rowP5.below own8.2.1 rowP5.1
  obtain ⟨v9, w9, ha9, own9⟩ := append_some own8 ⟨w.heap.size, 0, none⟩ (0) (zp.drop n) (fun j hj => by omega) (by simp; omega)
  rw [hld] at ha9
  have rowPA := rowP5.below own9.2.1 rowP5.1
  have rowQA := rowQ5.below own9.2.1 rowQ5.1
  have rowLA := rowL.below own9.2.1 rowL.1
  obtain ⟨w10, hmkB, own10⟩ := make_room w9 (zp.length + ls.length) (by omega)
  have rown10 := rowPA.below own10.2.1 rowPA.1
  obtain ⟨v11, w11, ha11, own11⟩ := append_some own10 ⟨w.heap.size, 0, none⟩ zp.length (zp.take n) (fun j hj => by
    rw [add_at, Nat.zero_add, rown10.2 j (by omega)]
    congr 2
    simp [List.getD, List.getElem?_take_of_lt (show j < n by omega)]) (by simp; omega)
  rw [hlk] at ha11
  have lown11 := rowLA.below own11.2.1 rowLA.1
  obtain ⟨v12, w12, ha12, own12⟩ := append_some own11 ⟨w4.heap.size, 0, none⟩ capL (ls) (fun j hj => by
    rw [add_at, Nat.zero_add, lown11.2 j hj]) (by simp; omega)
  have town12 := rowPA.below own12.2.1 rowPA.1
  obtain ⟨v13, w13, ha13, own13⟩ := append_some own12 ⟨w.heap.size, 0, none⟩ (0) (zp.drop n) (fun j hj => by omega) (by simp; omega)
  rw [hld] at ha13
  have rowPB := rowPA.below own13.2.1 rowPA.1
  have rowQB := rowQA.below own13.2.1 rowQA.1
  have rowLB := rowLA.below own13.2.1 rowLA.1
  have hB5 : Below w.heap.size w w5 := by
    have hq : Below w.heap.size w w4 := belP.trans (belQ.mono belP.size)
    exact hq.trans (belL.mono hq.size)
  have hBA : Below w.heap.size w w9 := hB5.trans (own9.2.1.mono hB5.size)
  have hBB : Below w.heap.size w w13 := hBA.trans (own13.2.1.mono hBA.size)
  have HMA := hide_min (min_own own9 (show (((([] ++ zp.take n) ++ zq) ++ zp.drop n)).length ≤ 4194304 by simp <;> omega) own13.2.1 (Nat.le_refl _))
  have HMB := hide_min (min_own own13 (show (((([] ++ zp.take n) ++ ls) ++ zp.drop n)).length ≤ 4194304 by simp <;> omega) (Below.refl _ _) (Nat.le_refl _))
  have HA : Hid (cnt (((([] ++ zp.take n) ++ zq) ++ zp.drop n)) = cnt zp + cnt zq) := by show cnt (((([] ++ zp.take n) ++ zq) ++ zp.drop n)) = cnt zp + cnt zq; simp only [cnt_append, cnt_nil]; have := cnt_split zp n; omega
  have HB : Hid (cnt (((([] ++ zp.take n) ++ ls) ++ zp.drop n)) = cnt zp + ls.length) := by show cnt (((([] ++ zp.take n) ++ ls) ++ zp.drop n)) = cnt zp + ls.length; simp only [cnt_append, cnt_nil]; have := cnt_split zp n; omega
  have HL : Hid (cnt ls = ls.length) := hcl
  obtain ⟨XA, HXA⟩ := hid_list (((([] ++ zp.take n) ++ zq) ++ zp.drop n))
  rw [← HXA.out] at HMA HA
  obtain ⟨XB, HXB⟩ := hid_list (((([] ++ zp.take n) ++ ls) ++ zp.drop n))
  rw [← HXB.out] at HMB HB
  rw [Int.natCast_add] at hmkA
  rw [Int.natCast_add] at hmkB
  have hcP := cnt_le zp
  have hcQ := cnt_le zq
  rw [hn] at hmk1 hcp1 hmkA hmkB ha7 ha11 hcP
  rw [hm] at hmk2 hcp2 hmkA ha7 ha8 hcQ
  clear own6 rown6 own7 qown7 own8 town8 own9 own10 rown10 own11 lown11 own12 town12 own13 hcp rowP rowP4 rowP5 rowPA belP hlk hld hcq hcq2 rowQ rowQ5 rowQA belQ rowL rowLA belL hcl hB5 hBA HXB HXA
  go_enter Try.func4, Try.ntmps4
  go_wp2_with (first | (go_at_call 7; refine (bytesS_yes _ _ _ _ _ _ _ _ (by omega) _).mono ?_; rintro e w' ⟨rfl, rfl⟩) | (at_builtin; refine wpList_append_eq rfl (.tmp 81) (.tmp 84) 22 rfl _ _ _ _ _ ha7 rfl rfl rfl ?_) | (at_builtin; refine wpList_append_eq rfl (.tmp 86) (.tmp 87) 22 rfl _ _ _ _ _ ha8 rfl rfl rfl ?_) | (at_builtin; refine wpList_append_eq rfl (.tmp 89) (.tmp 92) 22 rfl _ _ _ _ _ ha9 rfl rfl rfl ?_) | (at_builtin; refine wpList_append_eq rfl (.tmp 100) (.tmp 103) 22 rfl _ _ _ _ _ ha11 rfl rfl rfl ?_) | (at_builtin; refine wpList_append_eq rfl (.tmp 105) (.tmp 106) 22 rfl _ _ _ _ _ ha12 rfl rfl rfl ?_) | (at_builtin; refine wpList_append_eq rfl (.tmp 108) (.tmp 111) 22 rfl _ _ _ _ _ ha13 rfl rfl rfl ?_))
  refine (min_row w'.heap.size n n zp _ hn (by omega) rowPB).mono ?_
  rintro e w0 ⟨rfl, rfl⟩
  go_wp2_with fail
  refine (min_row w2.heap.size m m zq _ hm (by omega) rowQB).mono ?_
  rintro e w0 ⟨rfl, rfl⟩
  go_wp2_with fail
  refine (min_row w4.heap.size ls.length capL ls _ rfl (by omega) rowLB).mono ?_
  rintro e w0 ⟨rfl, rfl⟩
  rw [HL.out]
  go_wp2_with fail
  refine (HMA.out).mono ?_
  rintro e w0 ⟨rfl, rfl⟩
  rw [HA.out]
  go_wp2_with fail
  refine (HMB.out).mono ?_
  rintro e w0 ⟨rfl, rfl⟩
  rw [HB.out]
  go_wp2_with fail
  go_ret
  exact ⟨rfl, hBB⟩
end Go.Proofs.Qxb6626238a
