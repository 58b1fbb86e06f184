/-
  SEAT b6626238a: the walk of 'FnMinLengthInsertOne', at the slice's end and at the nil slice.
-/
import Derived.Test.Qxb6626238aInsert
namespace Go.Proofs.Qxb6626238a
open Go.RowKit

set_option maxHeartbeats 1000000 in
theorem ins_end (x : Addr) (cap n : Nat) (zs : List Int) (r : Int) (w : World) (hn : zs.length = n) (hl : n ≤ 262144) (hc : ∀ j, j < n → w.cell? (x.add j) = some (.int .i32 (zs.getD j 0))) :
    Calls Try.prog 3 #[.slice (some x) n cap, .int .i64 n, .int .i32 r] w fun e w' => e = .returned (.bool true) ∧ Below w.heap.size w w' := by
  obtain ⟨w1, w2, hmk, hcp, hrow, hbel⟩ := copy_runes w x cap zs (by omega) (fun j hj => hc j (by omega))
  clear hc
  have hg2 := hrow.1
  obtain ⟨w3, hmk2, own3⟩ := make_room w2 (zs.length + 1) (by omega)
  have hrow3 := hrow.below own3.2.1 hg2
  have hlk : (zs.take n).length = n := by rw [List.length_take]; omega
  have hld : (zs.drop n).length = 0 := by rw [List.length_drop]; omega
  obtain ⟨v4, w4, ha4, own4⟩ := append_some own3 ⟨w.heap.size, 0, none⟩ zs.length (zs.take n) (fun j hj => by
    rw [add_at, Nat.zero_add, hrow3.2 j (by omega)]
    congr 2
    simp [List.getD, List.getElem?_take_of_lt (show j < n by omega)]) (by simp; omega)
  rw [hlk] at ha4
  have own4a := own4.alloc (.cells #[.int .i32 r] 21)
  obtain ⟨v5, w5, ha5, own5⟩ := append_some own4a ⟨w4.heap.size, 0, none⟩ 1 [r] (fun j hj => by
    have : j = 0 := by simpa using hj
    subst this
    rw [add_at, World.cell?_alloc_mark]; rfl) (by simp; omega)
  have hrow5 := hrow.below own5.2.1 hg2
  obtain ⟨v6, w6, ha6, own6⟩ := append_some own5 ⟨w.heap.size, 0, none⟩ (0) (zs.drop n) (fun j hj => by
    omega) (by simp; omega)
  rw [hld] at ha6
  have hrow6 := hrow.below own6.2.1 hg2
  have hcle := cnt_le zs
  have hB6 : Below w.heap.size w w6 := hbel.trans (own6.2.1.mono hbel.size)
  have hlen6 : (([] ++ zs.take n) ++ [r] ++ zs.drop n).length ≤ 4194304 := by simp; omega
  have hmin6 := fun w' (hb : Below w6.heap.size w6 w') => min_own own6 hlen6 hb (Nat.le_refl _)
  have hpush : ((zs.length + 1 : Nat) : Int) = (zs.length : Int) + 1 := by omega
  rw [hpush] at hmk2
  have hY := cnt_ins_yes zs n r
  have hN := cnt_ins_no zs n r
  obtain ⟨XS, HXS⟩ : ∃ XS, Hid (XS = (([] ++ zs.take n) ++ [r] ++ zs.drop n)) := ⟨_, Eq.refl (([] ++ zs.take n) ++ [r] ++ zs.drop n)⟩
  rw [← HXS.out] at hmin6 hY hN
  rw [hn] at hmk hcp hmk2 ha4 hcle
  have HM6 := hide_min hmin6
  clear hpush own3 own4 own4a own5 own6 hrow hrow3 hrow5 hlk hld hmin6 hlen6 HXS hbel
  by_cases hr : r = -1
  · have HN : Hid (cnt XS = cnt zs) := hN hr
    have hb : (r != -1) = false := by rw [bne_eq_false_iff_eq]; exact hr
    clear hY hN hr
    go_enter Try.func3, Try.ntmps3
    go_wp2_with (first | (go_at_call 5; refine (bytesI_yes _ _ _ _ _ (by omega) _).mono ?_; rintro e w' ⟨rfl, rfl⟩) | (at_builtin; refine wpList_append_eq rfl (.tmp 41) (.tmp 44) 22 rfl _ _ _ _ _ ha4 rfl rfl rfl ?_) | (at_builtin; refine wpList_append_eq rfl (.tmp 46) (.tmp 48) 22 rfl _ _ _ _ _ ha5 rfl rfl rfl ?_) | (at_builtin; refine wpList_append_eq rfl (.tmp 50) (.tmp 53) 22 rfl _ _ _ _ _ ha6 rfl rfl rfl ?_))
    refine (min_row w'.heap.size n n zs _ hn (by omega) hrow6).mono ?_
    rintro e w7 ⟨rfl, rfl⟩
    go_wp2_with fail
    refine (HM6.out _ (Below.refl _ _)).mono ?_
    rintro e w8 ⟨rfl, rfl⟩
    rw [HN.out]
    go_wp2_with fail
    go_ret
    exact ⟨rfl, hB6⟩
  · have HN : Hid (cnt XS = cnt zs + 1) := hY hr
    have hb : (r != -1) = true := by rw [bne_iff_ne]; exact hr
    clear hY hN hr
    go_enter Try.func3, Try.ntmps3
    go_wp2_with (first | (go_at_call 5; refine (bytesI_yes _ _ _ _ _ (by omega) _).mono ?_; rintro e w' ⟨rfl, rfl⟩) | (at_builtin; refine wpList_append_eq rfl (.tmp 41) (.tmp 44) 22 rfl _ _ _ _ _ ha4 rfl rfl rfl ?_) | (at_builtin; refine wpList_append_eq rfl (.tmp 46) (.tmp 48) 22 rfl _ _ _ _ _ ha5 rfl rfl rfl ?_) | (at_builtin; refine wpList_append_eq rfl (.tmp 50) (.tmp 53) 22 rfl _ _ _ _ _ ha6 rfl rfl rfl ?_))
    refine (min_row w'.heap.size n n zs _ hn (by omega) hrow6).mono ?_
    rintro e w7 ⟨rfl, rfl⟩
    go_wp2_with fail
    refine (HM6.out _ (Below.refl _ _)).mono ?_
    rintro e w8 ⟨rfl, rfl⟩
    rw [HN.out]
    go_wp2_with fail
    go_ret
    exact ⟨rfl, hB6⟩

set_option maxHeartbeats 1000000 in
theorem ins_nil (r : Int) (w : World) :
    Calls Try.prog 3 #[.slice none 0 0, .int .i64 0, .int .i32 r] w fun e w' => e = .returned (.bool true) ∧ Below w.heap.size w w' := by
  obtain ⟨w3, hmk2, own3⟩ := make_room w 1 (by omega)
  rw [show ((1 : Nat) : Int) = 1 from rfl] at hmk2
  have ha4 := append_none own3
  have own4a := own3.alloc (.cells #[.int .i32 r] 21)
  obtain ⟨v5, w5, ha5, own5⟩ := append_some own4a ⟨w3.heap.size, 0, none⟩ 1 [r] (fun j hj => by
    have : j = 0 := by simpa using hj
    subst this
    rw [add_at, World.cell?_alloc_mark]; rfl) (by simp)
  have ha6 := append_none own5
  have hB6 : Below w.heap.size w w5 := own5.2.1
  have hmin6 := fun w' (hb : Below w5.heap.size w5 w') => min_own own5 (by simp) hb (Nat.le_refl _)
  have hY := cnt_one_yes r
  have hN := cnt_one_no r
  obtain ⟨XS, HXS⟩ : ∃ XS, Hid (XS = ([] ++ [r])) := ⟨_, Eq.refl ([] ++ [r])⟩
  rw [← HXS.out] at hmin6
  rw [← List.nil_append [r], ← HXS.out] at hY hN
  have HM6 := hide_min hmin6
  clear own3 own4a own5 hmin6 HXS
  by_cases hr : r = -1
  · have HN : Hid (cnt XS = 0) := hN hr
    have hb : (r != -1) = false := by rw [bne_eq_false_iff_eq]; exact hr
    clear hY hN hr
    go_enter Try.func3, Try.ntmps3
    go_wp2_with (first | (go_at_call 5; refine (bytesI_yes _ _ _ _ _ (by omega) _).mono ?_; rintro e w' ⟨rfl, rfl⟩) | (at_builtin; refine wpList_append_eq rfl (.tmp 41) (.tmp 44) 22 rfl _ _ _ _ _ ha4 rfl rfl rfl ?_) | (at_builtin; refine wpList_append_eq rfl (.tmp 46) (.tmp 48) 22 rfl _ _ _ _ _ ha5 rfl rfl rfl ?_) | (at_builtin; refine wpList_append_eq rfl (.tmp 50) (.tmp 53) 22 rfl _ _ _ _ _ ha6 rfl rfl rfl ?_))
    refine (min_nil _).mono ?_
    rintro e w7 ⟨rfl, rfl⟩
    go_wp2_with fail
    refine (HM6.out _ (Below.refl _ _)).mono ?_
    rintro e w8 ⟨rfl, rfl⟩
    rw [HN.out]
    go_wp2_with fail
    go_ret
    exact ⟨rfl, hB6⟩
  · have HN : Hid (cnt XS = 1) := hY hr
    have hb : (r != -1) = true := by rw [bne_iff_ne]; exact hr
    clear hY hN hr
    go_enter Try.func3, Try.ntmps3
    go_wp2_with (first | (go_at_call 5; refine (bytesI_yes _ _ _ _ _ (by omega) _).mono ?_; rintro e w' ⟨rfl, rfl⟩) | (at_builtin; refine wpList_append_eq rfl (.tmp 41) (.tmp 44) 22 rfl _ _ _ _ _ ha4 rfl rfl rfl ?_) | (at_builtin; refine wpList_append_eq rfl (.tmp 46) (.tmp 48) 22 rfl _ _ _ _ _ ha5 rfl rfl rfl ?_) | (at_builtin; refine wpList_append_eq rfl (.tmp 50) (.tmp 53) 22 rfl _ _ _ _ _ ha6 rfl rfl rfl ?_))
    refine (min_nil _).mono ?_
    rintro e w7 ⟨rfl, rfl⟩
    go_wp2_with fail
    refine (HM6.out _ (Below.refl _ _)).mono ?_
    rintro e w8 ⟨rfl, rfl⟩
    rw [HN.out]
    go_wp2_with fail
    go_ret
    exact ⟨rfl, hB6⟩
end Go.Proofs.Qxb6626238a
