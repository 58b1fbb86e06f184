/-
  SEAT b6626238a: the walk of 'FnMinLengthSplice': the bound's test, and the ways that return ahead of the splicing.
-/
import Derived.Test.Qxb6626238aRunes
namespace Go.Proofs.Qxb6626238a
open Go.RowKit

/-! ### the bound's test -/
theorem bytesS_no (a b : Option Addr) (n m cap cap' : Nat) (s : ByteArray) (k : Int) (hn : n ≤ 9223372036854775807) (hm : m ≤ 9223372036854775807) (hs : s.size ≤ 9223372036854775807) (h : ¬ n + m + s.size ≤ 1048576) (w : World) :
    Calls Try.prog 7 #[.slice a n cap, .slice b m cap', .string s, .int .i64 k] w fun e w' => e = .returned (.bool false) ∧ w' = w := by
  go_enter Try.func7, Try.ntmps7
  go_wp2
  all_goals (go_ret; exact ⟨rfl, rfl⟩)
theorem bytesS_yes (a b : Option Addr) (n m cap cap' : Nat) (s : ByteArray) (k : Int) (h : n + m + s.size ≤ 1048576) (w : World) :
    Calls Try.prog 7 #[.slice a n cap, .slice b m cap', .string s, .int .i64 k] w fun e w' => e = .returned (.bool true) ∧ w' = w := by
  go_enter Try.func7, Try.ntmps7
  go_wp2
  go_ret
  exact ⟨rfl, rfl⟩

/-- Too long: the law returns ahead of any memory. -/
theorem spl_long (a b : Option Addr) (n m cap cap' : Nat) (s : ByteArray) (k : Int) (hn : n ≤ 9223372036854775807) (hm : m ≤ 9223372036854775807) (hs : s.size ≤ 9223372036854775807) (h : ¬ n + m + s.size ≤ 1048576 ∨ ¬ n ≤ 262144) (w : World) :
    Calls Try.prog 4 #[.slice a n cap, .slice b m cap', .string s, .int .i64 k] w fun e w' => e = .returned (.bool true) ∧ Below w.heap.size w w' := by
  by_cases h1 : n + m + s.size ≤ 1048576
  · have h2 : ¬ n ≤ 262144 := by omega
    go_enter Try.func4, Try.ntmps4
    go_wp2_with (go_at_call 7; refine (bytesS_yes _ _ _ _ _ _ _ _ h1 _).mono ?_; rintro e w' ⟨rfl, rfl⟩)
    go_ret
    exact ⟨rfl, Below.refl _ _⟩
  · go_enter Try.func4, Try.ntmps4
    go_wp2_with (go_at_call 7; refine (bytesS_no _ _ _ _ _ _ _ _ hn hm hs h1 _).mono ?_; rintro e w' ⟨rfl, rfl⟩)
    go_ret
    exact ⟨rfl, Below.refl _ _⟩

theorem hide_min {p : Prop} (h : p) : Hid p := h
theorem hid_list (x : List Int) : ∃ L, Hid (L = x) := ⟨x, Eq.refl x⟩

set_option maxHeartbeats 1000000 in
/-- Behind the copies: the second pattern too long, all together too long, or the place out of range. -/
theorem spl_out_nil_nil  (s : ByteArray) (k : Int) (w : World)  (h0 : 0 + 0 + s.size ≤ 1048576) (_h1 : 0 ≤ 262144) (h : ¬ 0 ≤ 262144 ∨ ¬ 4 * 0 + 4 * 0 + s.size ≤ 1048576 ∨ k < 0 ∨ (0 : Int) < k) :
    Calls Try.prog 4 #[.slice none 0 0, .slice none 0 0, .string s, .int .i64 k] w fun e w' => e = .returned (.bool true) ∧ Below w.heap.size w w' := by
  have hB : Below w.heap.size w w := Below.refl _ _
  by_cases c1 : 0 ≤ 262144
  · by_cases c2 : 4 * 0 + 4 * 0 + s.size ≤ 1048576
    · by_cases c3 : k < 0
      · clear h
        go_enter Try.func4, Try.ntmps4
        go_wp2_with (go_at_call 7; refine (bytesS_yes _ _ _ _ _ _ _ _ (by omega) _).mono ?_; rintro e w' ⟨rfl, rfl⟩)
        go_ret
        exact ⟨rfl, hB⟩
      · have c4 : (0 : Int) < k := by omega
        clear h
        go_enter Try.func4, Try.ntmps4
        go_wp2_with (go_at_call 7; refine (bytesS_yes _ _ _ _ _ _ _ _ (by omega) _).mono ?_; rintro e w' ⟨rfl, rfl⟩)
        go_ret
        exact ⟨rfl, hB⟩
    · exact absurd (by omega) c2
  · exact absurd (by omega) c1

set_option maxHeartbeats 1000000 in
/-- Behind the copies: the second pattern too long, all together too long, or the place out of range. -/
theorem spl_out_nil_row (y : Addr) (capq m : Nat) (zq : List Int) (s : ByteArray) (k : Int) (w : World) (hm : zq.length = m) (hcq : ∀ j, j < m → w.cell? (y.add j) = some (.int .i32 (zq.getD j 0))) (h0 : 0 + m + s.size ≤ 1048576) (_h1 : 0 ≤ 262144) (h : ¬ m ≤ 262144 ∨ ¬ 4 * 0 + 4 * m + s.size ≤ 1048576 ∨ k < 0 ∨ (0 : Int) < k) :
    Calls Try.prog 4 #[.slice none 0 0, .slice (some y) m capq, .string s, .int .i64 k] w fun e w' => e = .returned (.bool true) ∧ Below w.heap.size w w' := by
  have hcq2 := hcq
  obtain ⟨w3, w4, hmk2, hcp2, rowQ, belQ⟩ := copy_runes w y capq zq (by omega) (fun j hj => hcq2 j (by omega))
  have hB : Below w.heap.size w w4 := belQ
  rw [hm] at hmk2 hcp2
  clear hcq hcq2 rowQ belQ
  by_cases c1 : m ≤ 262144
  · by_cases c2 : 4 * 0 + 4 * m + s.size ≤ 1048576
    · by_cases c3 : k < 0
      · clear h
        go_enter Try.func4, Try.ntmps4
        go_wp2_with (go_at_call 7; refine (bytesS_yes _ _ _ _ _ _ _ _ (by omega) _).mono ?_; rintro e w' ⟨rfl, rfl⟩)
        go_ret
        exact ⟨rfl, hB⟩
      · have c4 : (0 : Int) < k := by omega
        clear h
        go_enter Try.func4, Try.ntmps4
        go_wp2_with (go_at_call 7; refine (bytesS_yes _ _ _ _ _ _ _ _ (by omega) _).mono ?_; rintro e w' ⟨rfl, rfl⟩)
        go_ret
        exact ⟨rfl, hB⟩
    · clear h
      go_enter Try.func4, Try.ntmps4
      go_wp2_with (go_at_call 7; refine (bytesS_yes _ _ _ _ _ _ _ _ (by omega) _).mono ?_; rintro e w' ⟨rfl, rfl⟩)
      go_ret
      exact ⟨rfl, hB⟩
  · clear h
    go_enter Try.func4, Try.ntmps4
    go_wp2_with (go_at_call 7; refine (bytesS_yes _ _ _ _ _ _ _ _ (by omega) _).mono ?_; rintro e w' ⟨rfl, rfl⟩)
    go_ret
    exact ⟨rfl, hB⟩

set_option maxHeartbeats 1000000 in
/-- Behind the copies: the second pattern too long, all together too long, or the place out of range. -/
theorem spl_out_row_nil (x : Addr) (capp n : Nat) (zp : List Int) (s : ByteArray) (k : Int) (w : World) (hn : zp.length = n) (hcp : ∀ j, j < n → w.cell? (x.add j) = some (.int .i32 (zp.getD j 0))) (h0 : n + 0 + s.size ≤ 1048576) (_h1 : n ≤ 262144) (h : ¬ 0 ≤ 262144 ∨ ¬ 4 * n + 4 * 0 + s.size ≤ 1048576 ∨ k < 0 ∨ (n : Int) < k) :
    Calls Try.prog 4 #[.slice (some x) n capp, .slice none 0 0, .string s, .int .i64 k] w fun e w' => e = .returned (.bool true) ∧ Below w.heap.size w w' := by
  obtain ⟨w1, w2, hmk1, hcp1, rowP, belP⟩ := copy_runes w x capp zp (by omega) (fun j hj => hcp j (by omega))
  have hB : Below w.heap.size w w2 := belP
  rw [hn] at hmk1 hcp1
  clear hcp rowP belP
  by_cases c1 : 0 ≤ 262144
  · by_cases c2 : 4 * n + 4 * 0 + s.size ≤ 1048576
    · by_cases c3 : k < 0
      · clear h
        go_enter Try.func4, Try.ntmps4
        go_wp2_with (go_at_call 7; refine (bytesS_yes _ _ _ _ _ _ _ _ (by omega) _).mono ?_; rintro e w' ⟨rfl, rfl⟩)
        go_ret
        exact ⟨rfl, hB⟩
      · have c4 : (n : Int) < k := by omega
        clear h
        go_enter Try.func4, Try.ntmps4
        go_wp2_with (go_at_call 7; refine (bytesS_yes _ _ _ _ _ _ _ _ (by omega) _).mono ?_; rintro e w' ⟨rfl, rfl⟩)
        go_ret
        exact ⟨rfl, hB⟩
    · clear h
      go_enter Try.func4, Try.ntmps4
      go_wp2_with (go_at_call 7; refine (bytesS_yes _ _ _ _ _ _ _ _ (by omega) _).mono ?_; rintro e w' ⟨rfl, rfl⟩)
      go_ret
      exact ⟨rfl, hB⟩
  · exact absurd (by omega) c1

set_option maxHeartbeats 1000000 in
/-- Behind the copies: the second pattern too long, all together too long, or the place out of range. -/
theorem spl_out_row_row (x : Addr) (capp n : Nat) (zp : List Int) (y : Addr) (capq m : Nat) (zq : List Int) (s : ByteArray) (k : Int) (w : World) (hn : zp.length = n) (hcp : ∀ j, j < n → w.cell? (x.add j) = some (.int .i32 (zp.getD j 0))) (hm : zq.length = m) (hcq : ∀ j, j < m → w.cell? (y.add j) = some (.int .i32 (zq.getD j 0))) (h0 : n + m + s.size ≤ 1048576) (_h1 : n ≤ 262144) (h : ¬ m ≤ 262144 ∨ ¬ 4 * n + 4 * m + s.size ≤ 1048576 ∨ k < 0 ∨ (n : Int) < k) :
    Calls Try.prog 4 #[.slice (some x) n capp, .slice (some y) m capq, .string s, .int .i64 k] w fun e w' => e = .returned (.bool true) ∧ Below w.heap.size w w' := by
  obtain ⟨w1, w2, hmk1, hcp1, rowP, belP⟩ := copy_runes w x capp zp (by omega) (fun j hj => hcp j (by omega))
  have hcq2 : ∀ j, j < m → w2.cell? (y.add j) = some (.int .i32 (zq.getD j 0)) := fun j hj => (belP.cell (Lib.lt_of_cell (hcq j hj))).trans (hcq j hj)
  obtain ⟨w3, w4, hmk2, hcp2, rowQ, belQ⟩ := copy_runes w2 y capq zq (by omega) (fun j hj => hcq2 j (by omega))
  have hB : Below w.heap.size w w4 := belP.trans (belQ.mono belP.size)
  rw [hn] at hmk1 hcp1
  rw [hm] at hmk2 hcp2
  clear hcp hcq hcq2 rowP belP rowQ belQ
  by_cases c1 : m ≤ 262144
  · by_cases c2 : 4 * n + 4 * m + s.size ≤ 1048576
    · by_cases c3 : k < 0
      · clear h
        go_enter Try.func4, Try.ntmps4
        go_wp2_with (go_at_call 7; refine (bytesS_yes _ _ _ _ _ _ _ _ (by omega) _).mono ?_; rintro e w' ⟨rfl, rfl⟩)
        go_ret
        exact ⟨rfl, hB⟩
      · have c4 : (n : Int) < k := by omega
        clear h
        go_enter Try.func4, Try.ntmps4
        go_wp2_with (go_at_call 7; refine (bytesS_yes _ _ _ _ _ _ _ _ (by omega) _).mono ?_; rintro e w' ⟨rfl, rfl⟩)
        go_ret
        exact ⟨rfl, hB⟩
    · clear h
      go_enter Try.func4, Try.ntmps4
      go_wp2_with (go_at_call 7; refine (bytesS_yes _ _ _ _ _ _ _ _ (by omega) _).mono ?_; rintro e w' ⟨rfl, rfl⟩)
      go_ret
      exact ⟨rfl, hB⟩
  · clear h
    go_enter Try.func4, Try.ntmps4
    go_wp2_with (go_at_call 7; refine (bytesS_yes _ _ _ _ _ _ _ _ (by omega) _).mono ?_; rintro e w' ⟨rfl, rfl⟩)
    go_ret
    exact ⟨rfl, hB⟩
end Go.Proofs.Qxb6626238a
