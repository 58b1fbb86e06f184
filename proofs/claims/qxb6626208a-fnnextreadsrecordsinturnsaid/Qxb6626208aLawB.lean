/-
  SEAT b6626208a: the walk of 'FnNextReadsRecordsInTurn'.
-/
import Derived.Test.Qxb6626208aSplit
namespace Go.Proofs.Qxb6626208a
open Go.RowKit

theorem bytesB_no (a : ByteArray) (w0 : a.size ≤ 9223372036854775807) (h : ¬ a.size ≤ 1048576) (w : World) :
    Calls Try.prog 8 #[.string a] w fun e w' => e = .returned (.bool false) ∧ w' = w := by
  go_enter Try.func8, Try.ntmps8
  go_wp2
  all_goals (go_ret; exact ⟨rfl, rfl⟩)
theorem bytesB_yes (a : ByteArray) (h : a.size ≤ 1048576) (w : World) :
    Calls Try.prog 8 #[.string a] w fun e w' => e = .returned (.bool true) ∧ w' = w := by
  go_enter Try.func8, Try.ntmps8
  go_wp2
  go_ret
  exact ⟨rfl, rfl⟩
theorem hid_cut (x : ByteArray) : ∃ r, Hid (r = x) := ⟨x, Eq.refl x⟩

set_option maxHeartbeats 1000000 in
theorem lawB (s : ByteArray) (w0 : s.size ≤ 9223372036854775807) (w : World) :
    Calls Try.prog 4 #[.string s] w fun e w' => e = .returned (.bool true) ∧ Below w.heap.size w w' := by
  by_cases h : s.size ≤ 1048576
  · go_enter Try.func4, Try.ntmps4
    go_wp2_with (go_at_call 8; refine (bytesB_yes _ h _).mono ?_; rintro e w' ⟨rfl, rfl⟩)
    refine (split_any s (by omega) _).mono ?_
    rintro e w2 ⟨⟨k, m, ok, rfl, hok⟩, hb2⟩
    cases ok with
    | false =>
      clear hok
      go_wp2_with fail
      go_ret
      exact ⟨rfl, hb2⟩
    | true =>
      have hst := hok rfl
      have hf := hst.fits
      clear hok
      go_wp2_with fail
      obtain ⟨r, HR⟩ := hid_cut (s.extract (k + m) s.size)
      rw [← HR.out]
      have hr : r.size ≤ 1048576 := by rw [HR.out]; simp; omega
      refine (split_any r hr _).mono ?_
      rintro e w3 ⟨⟨k2, m2, ok2, rfl, hok2⟩, hb3⟩
      have hB3 := hb2.trans (hb3.mono hb2.size)
      clear hb3 hb2
      cases ok2 with
      | false =>
        clear hok2
        go_wp2_with fail
        go_ret
        exact ⟨rfl, hB3⟩
      | true =>
        have hst2 := hok2 rfl
        have hf2 := hst2.fits
        clear hok2
        go_wp2_with fail
        refine (next_any s k m (by omega) hst _).mono ?_
        rintro e w4 ⟨rfl, hb4⟩
        rw [← HR.out]
        have hB4 := hB3.trans (hb4.mono hB3.size)
        clear hb4 hB3
        go_wp2_with fail
        refine (next_any r k2 m2 (by omega) hst2 _).mono ?_
        rintro e w5 ⟨rfl, hb5⟩
        have hB5 := hB4.trans (hb5.mono hB4.size)
        clear hb5 hB4
        go_wp2_with fail
        go_ret
        exact ⟨rfl, hB5⟩
  · go_enter Try.func4, Try.ntmps4
    go_wp2_with (go_at_call 8; refine (bytesB_no _ w0 h _).mono ?_; rintro e w' ⟨rfl, rfl⟩)
    go_ret
    exact ⟨rfl, Below.refl _ _⟩
end Go.Proofs.Qxb6626208a
