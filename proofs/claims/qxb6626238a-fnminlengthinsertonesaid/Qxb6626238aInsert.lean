/-
  SEAT b6626238a: the walk of 'FnMinLengthInsertOne'.
-/
import Derived.Test.Qxb6626238aMin
namespace Go.Proofs.Qxb6626238a
open Go.RowKit

/-! ### the bound's test -/
theorem bytesI_no (a : Option Addr) (len cap : Nat) (i r : Int) (hm : len ≤ 9223372036854775807) (h : ¬ len ≤ 1048576) (w : World) :
    Calls Try.prog 5 #[.slice a len cap, .int .i64 i, .int .i32 r] w fun e w' => e = .returned (.bool false) ∧ w' = w := by
  go_enter Try.func5, Try.ntmps5
  go_wp2
  go_ret
  exact ⟨rfl, rfl⟩
theorem bytesI_yes (a : Option Addr) (len cap : Nat) (i r : Int) (h : len ≤ 1048576) (w : World) :
    Calls Try.prog 5 #[.slice a len cap, .int .i64 i, .int .i32 r] w fun e w' => e = .returned (.bool true) ∧ w' = w := by
  go_enter Try.func5, Try.ntmps5
  go_wp2
  go_ret
  exact ⟨rfl, rfl⟩

/-- Where the law returns ahead of any memory: too long, or the place is out of range. -/
theorem ins_out (a : Option Addr) (len cap : Nat) (i r : Int) (hm : len ≤ 9223372036854775807) (w : World) (h : ¬ len ≤ 262144 ∨ i < 0 ∨ (len : Int) < i) :
    Calls Try.prog 3 #[.slice a len cap, .int .i64 i, .int .i32 r] w fun e w' => e = .returned (.bool true) ∧ Below w.heap.size w w' := by
  by_cases h1 : len ≤ 1048576
  · by_cases h2 : len ≤ 262144
    · by_cases h3 : i < 0
      · go_enter Try.func3, Try.ntmps3
        go_wp2_with (go_at_call 5; refine (bytesI_yes _ _ _ _ _ h1 _).mono ?_; rintro e w' ⟨rfl, rfl⟩)
        go_ret
        exact ⟨rfl, Below.refl _ _⟩
      · have h4 : (len : Int) < i := by omega
        go_enter Try.func3, Try.ntmps3
        go_wp2_with (go_at_call 5; refine (bytesI_yes _ _ _ _ _ h1 _).mono ?_; rintro e w' ⟨rfl, rfl⟩)
        go_ret
        exact ⟨rfl, Below.refl _ _⟩
    · go_enter Try.func3, Try.ntmps3
      go_wp2_with (go_at_call 5; refine (bytesI_yes _ _ _ _ _ h1 _).mono ?_; rintro e w' ⟨rfl, rfl⟩)
      go_ret
      exact ⟨rfl, Below.refl _ _⟩
  · go_enter Try.func3, Try.ntmps3
    go_wp2_with (go_at_call 5; refine (bytesI_no _ _ _ _ _ hm h1 _).mono ?_; rintro e w' ⟨rfl, rfl⟩)
    go_ret
    exact ⟨rfl, Below.refl _ _⟩

/-! ### what the insertion does to the count -/
theorem cnt_ins_yes (zs : List Int) (k : Nat) (r : Int) (h : r ≠ -1) : cnt (([] ++ zs.take k) ++ [r] ++ zs.drop k) = cnt zs + 1 := by
  rw [List.nil_append, cnt_append, cnt_append, cnt_one_yes r h]
  have := cnt_split zs k
  omega
theorem cnt_ins_no (zs : List Int) (k : Nat) (r : Int) (h : r = -1) : cnt (([] ++ zs.take k) ++ [r] ++ zs.drop k) = cnt zs := by
  rw [List.nil_append, cnt_append, cnt_append, cnt_one_no r h]
  have := cnt_split zs k
  omega

theorem hide_min {p : Prop} (h : p) : Hid p := h

set_option maxHeartbeats 1000000 in
theorem ins_mid (x : Addr) (cap k n : Nat) (zs : List Int) (r : Int) (w : World) (hn : zs.length = n) (hl : n ≤ 262144) (hk : k < n) (hc : ∀ j, j < n → w.cell? (x.add j) = some (.int .i32 (zs.getD j 0))) :
    Calls Try.prog 3 #[.slice (some x) n cap, .int .i64 k, .int .i32 r] w fun e w' => e = .returned (.bool true) ∧ Below w.heap.size w w' := by
  obtain ⟨w1, w2, hmk, hcp, hrow, hbel⟩ := copy_runes w x cap zs (by omega) (fun j hj => hc j (by omega))
  clear hc
  have hg2 := hrow.1
  obtain ⟨w3, hmk2, own3⟩ := make_room w2 (zs.length + 1) (by omega)
  have hrow3 := hrow.below own3.2.1 hg2
  have hlk : (zs.take k).length = k := by rw [List.length_take]; omega
  have hld : (zs.drop k).length = n - k := by rw [List.length_drop]; omega
  obtain ⟨v4, w4, ha4, own4⟩ := append_some own3 ⟨w.heap.size, 0, none⟩ zs.length (zs.take k) (fun j hj => by
    rw [add_at, Nat.zero_add, hrow3.2 j (by omega)]
    congr 2
    simp [List.getD, List.getElem?_take_of_lt (show j < k by omega)]) (by simp; omega)
  rw [hlk] at ha4
  have own4a := own4.alloc (.cells #[.int .i32 r] 21)
  obtain ⟨v5, w5, ha5, own5⟩ := append_some own4a ⟨w4.heap.size, 0, none⟩ 1 [r] (fun j hj => by
    have : j = 0 := by simpa using hj
    subst this
    rw [add_at, World.cell?_alloc_mark]; rfl) (by simp; omega)
  have hrow5 := hrow.below own5.2.1 hg2
  obtain ⟨v6, w6, ha6, own6⟩ := append_some own5 ⟨w.heap.size, k, none⟩ (n - k) (zs.drop k) (fun j hj => by
    rw [add_at, hrow5.2 (k + j) (by omega)]; congr 2; simp [List.getD]) (by simp; omega)
  rw [hld] at ha6
  have hrow6 := hrow.below own6.2.1 hg2
  have hcle := cnt_le zs
  have hB6 : Below w.heap.size w w6 := hbel.trans (own6.2.1.mono hbel.size)
  have hlen6 : (([] ++ zs.take k) ++ [r] ++ zs.drop k).length ≤ 4194304 := by simp; omega
  have hmin6 := fun w' (hb : Below w6.heap.size w6 w') => min_own own6 hlen6 hb (Nat.le_refl _)
  have hpush : ((zs.length + 1 : Nat) : Int) = (zs.length : Int) + 1 := by omega
  rw [hpush] at hmk2
  have hY := cnt_ins_yes zs k r
  have hN := cnt_ins_no zs k r
  obtain ⟨XS, HXS⟩ : ∃ XS, Hid (XS = (([] ++ zs.take k) ++ [r] ++ zs.drop k)) := ⟨_, Eq.refl (([] ++ zs.take k) ++ [r] ++ zs.drop k)⟩
  rw [← HXS.out] at hmin6 hY hN
  rw [hn] at hmk hcp hmk2 ha4 hcle
  have HM6 := hide_min hmin6
  clear hpush own3 own4 own4a own5 own6 hrow hrow3 hrow5 hlk hld hmin6 hlen6 HXS hbel
  by_cases hr : r = -1
  · have HN : Hid (cnt XS = cnt zs) := hN hr
    have hb : (r != -1) = false := by rw [bne_eq_false_iff_eq]; exact hr
    clear hY hN hr
    go_enter Try.func3, Try.ntmps3
    go_wp2_with (first | (go_at_call 5; refine (bytesI_yes _ _ _ _ _ (by omega) _).mono ?_; rintro e w' ⟨rfl, rfl⟩) | (at_builtin; refine wpList_append_eq rfl (.tmp 41) (.tmp 44) 22 rfl _ _ _ _ _ ha4 rfl rfl rfl ?_) | (at_builtin; refine wpList_append_eq rfl (.tmp 46) (.tmp 48) 22 rfl _ _ _ _ _ ha5 rfl rfl rfl ?_) | (at_builtin; refine wpList_append_eq rfl (.tmp 50) (.tmp 53) 22 rfl _ _ _ _ _ ha6 rfl rfl rfl ?_))
    refine (min_row w'.heap.size n n zs _ hn (by omega) hrow6).mono ?_
    rintro e w7 ⟨rfl, rfl⟩
    go_wp2_with fail
    refine (HM6.out _ (Below.refl _ _)).mono ?_
    rintro e w8 ⟨rfl, rfl⟩
    rw [HN.out]
    go_wp2_with fail
    go_ret
    exact ⟨rfl, hB6⟩
  · have HN : Hid (cnt XS = cnt zs + 1) := hY hr
    have hb : (r != -1) = true := by rw [bne_iff_ne]; exact hr
    clear hY hN hr
    go_enter Try.func3, Try.ntmps3
    go_wp2_with (first | (go_at_call 5; refine (bytesI_yes _ _ _ _ _ (by omega) _).mono ?_; rintro e w' ⟨rfl, rfl⟩) | (at_builtin; refine wpList_append_eq rfl (.tmp 41) (.tmp 44) 22 rfl _ _ _ _ _ ha4 rfl rfl rfl ?_) | (at_builtin; refine wpList_append_eq rfl (.tmp 46) (.tmp 48) 22 rfl _ _ _ _ _ ha5 rfl rfl rfl ?_) | (at_builtin; refine wpList_append_eq rfl (.tmp 50) (.tmp 53) 22 rfl _ _ _ _ _ ha6 rfl rfl rfl ?_))
    refine (min_row w'.heap.size n n zs _ hn (by omega) hrow6).mono ?_
    rintro e w7 ⟨rfl, rfl⟩
    go_wp2_with fail
    refine (HM6.out _ (Below.refl _ _)).mono ?_
    rintro e w8 ⟨rfl, rfl⟩
    rw [HN.out]
    go_wp2_with fail
    go_ret
    exact ⟨rfl, hB6⟩
end Go.Proofs.Qxb6626238a
