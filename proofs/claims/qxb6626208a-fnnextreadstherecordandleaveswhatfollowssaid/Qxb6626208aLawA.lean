/-
  SEAT b6626208a: the walk of 'FnNextReadsTheRecordAndLeavesWhatFollows'.
-/
import Derived.Test.Qxb6626208aSplit
namespace Go.Proofs.Qxb6626208a
open Go.RowKit

theorem bytesA_no (a b : ByteArray) (w0 : a.size ≤ 9223372036854775807) (w1 : b.size ≤ 9223372036854775807) (h : ¬ a.size + b.size ≤ 1048576) (w : World) :
    Calls Try.prog 5 #[.string a, .string b] w fun e w' => e = .returned (.bool false) ∧ w' = w := by
  go_enter Try.func5, Try.ntmps5
  go_wp2
  all_goals (go_ret; exact ⟨rfl, rfl⟩)
theorem bytesA_yes (a b : ByteArray) (h : a.size + b.size ≤ 1048576) (w : World) :
    Calls Try.prog 5 #[.string a, .string b] w fun e w' => e = .returned (.bool true) ∧ w' = w := by
  go_enter Try.func5, Try.ntmps5
  go_wp2
  go_ret
  exact ⟨rfl, rfl⟩

set_option maxHeartbeats 1000000 in
theorem lawA (s t : ByteArray) (w0 : s.size ≤ 9223372036854775807) (w1 : t.size ≤ 9223372036854775807) (w : World) :
    Calls Try.prog 3 #[.string s, .string t] w fun e w' => e = .returned (.bool true) ∧ Below w.heap.size w w' := by
  by_cases h : s.size + t.size ≤ 1048576
  · go_enter Try.func3, Try.ntmps3
    go_wp2_with (go_at_call 5; refine (bytesA_yes _ _ h _).mono ?_; rintro e w' ⟨rfl, rfl⟩)
    refine (split_any s (by omega) _).mono ?_
    rintro e w2 ⟨⟨k, m, ok, rfl, hok⟩, hb2⟩
    cases ok with
    | false =>
      clear hok
      go_wp2_with fail
      go_ret
      exact ⟨rfl, hb2⟩
    | true =>
      have hst := hok rfl
      have hst2 := hst.append t
      have hf := hst.fits
      have hsz : (s ++ t).size = s.size + t.size := by rw [ByteArray.size_append]
      have HM : Hid ((s ++ t).extract k (k + m) = s.extract k (k + m)) := append_mid s t k m hf
      have HE : Hid ((s ++ t).extract (k + m) (s ++ t).size = s.extract (k + m) s.size ++ t) := append_end s t (k + m) hf
      have hs2 : (s ++ t).size ≤ 2097152 := by omega
      clear hok
      go_wp2_with fail
      refine (next_any s k m (by omega) hst _).mono ?_
      rintro e w3 ⟨rfl, hb3⟩
      have hB3 := hb2.trans (hb3.mono hb2.size)
      clear hb3 hb2
      go_wp2_with fail
      refine (next_any (s ++ t) k m hs2 hst2 _).mono ?_
      rintro e w4 ⟨rfl, hb4⟩
      rw [HM.out, HE.out]
      have hB4 := hB3.trans (hb4.mono hB3.size)
      clear hb4 hB3
      go_wp2_with fail
      go_ret
      exact ⟨rfl, hB4⟩
  · go_enter Try.func3, Try.ntmps3
    go_wp2_with (go_at_call 5; refine (bytesA_no _ _ w0 w1 h _).mono ?_; rintro e w' ⟨rfl, rfl⟩)
    go_ret
    exact ⟨rfl, Below.refl _ _⟩
end Go.Proofs.Qxb6626208a
