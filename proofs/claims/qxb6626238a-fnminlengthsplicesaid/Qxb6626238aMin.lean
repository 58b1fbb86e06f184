/-
  SEAT b6626238a: the walk of '(Pattern).MinLength'.
-/
import Derived.Test.Qxb6626238aMem
namespace Go.Proofs.Qxb6626238a
open Go.RowKit

theorem ret_i64 {a b : Int} (h : a = b) : Ending.returned (.int .i64 a) = .returned (.int .i64 b) := by rw [h]

set_option maxHeartbeats 400000 in
theorem min_row (g n cap : Nat) (zs : List Int) (w : World) (hn : zs.length = n) (hm : n ≤ 4194304) (h : RowAt w g zs) :
    Calls Try.prog 6 #[.slice (some ⟨g, 0, none⟩) n cap] w fun e w' => e = .returned (.int .i64 (cnt zs : Nat)) ∧ w' = w := by
  subst hn
  obtain ⟨_, hc⟩ := h
  go_enter Try.func6, Try.ntmps6
  go_wp2
  go_loop [3, 8] (fun c i => ∃ k : Nat, k ≤ zs.length ∧ i = .int .i64 k ∧ c = .int .i64 (cnt (zs.take k) : Nat)) (fun _ i => zs.length - (intOf i).toNat)
  case atStart => exact ⟨0, Nat.zero_le _, rfl, rfl⟩
  case round =>
    obtain ⟨k, hk, rfl, rfl⟩ := hrel
    have hle := cnt_le (zs.take k)
    have hl2 : (zs.take k).length ≤ k := List.length_take_le _ _
    by_cases hlt : k < zs.length
    · have hcell := hc k hlt
      have hy := cnt_take_yes zs k hlt
      have hno := cnt_take_no zs k hlt
      clear hc
      generalize zs.getD k 0 = r at hcell hy hno
      by_cases hr : r = -1
      · have HN : Hid (cnt (zs.take (k + 1)) = cnt (zs.take k)) := hno hr
        have hb : (r != -1) = false := by rw [bne_eq_false_iff_eq]; exact hr
        clear hy hno hr
        go_wp2
        go_round
        case rel => exact ⟨k + 1, by omega, by go_num, by rw [HN.out]⟩
        case measure => simp [intOf]; omega
      · have HN : Hid (cnt (zs.take (k + 1)) = cnt (zs.take k) + 1) := hy hr
        have hb : (r != -1) = true := by rw [bne_iff_ne]; exact hr
        clear hy hno hr
        go_wp2
        go_round
        case rel => exact ⟨k + 1, by omega, by go_num, by rw [HN.out]; go_num⟩
        case measure => simp [intOf]; omega
    · clear hc
      go_wp2
      go_ret
      exact ⟨ret_i64 (by rw [List.take_of_length_le (by omega)]), rfl⟩

theorem min_nil (w : World) :
    Calls Try.prog 6 #[.slice none 0 0] w fun e w' => e = .returned (.int .i64 0) ∧ w' = w := by
  go_enter Try.func6, Try.ntmps6
  go_wp2
  refine wp_loop_rounds 1 ?_
  rw [rounds_succ]
  go_wp2
  go_ret
  exact ⟨rfl, rfl⟩

theorem min_own {B : Nat} {w0 w w' : World} {v : Value} {zs : List Int} (h : Own B w0 w v zs) (hm : zs.length ≤ 4194304) {B' : Nat} (hb : Below B' w w') (hB : w.heap.size ≤ B') :
    Calls Try.prog 6 #[v] w' fun e w'' => e = .returned (.int .i64 (cnt zs : Nat)) ∧ w'' = w' := by
  rcases h.form with ⟨rfl, rfl⟩ | ⟨g, cap, rfl, hr, _⟩
  · exact min_nil w'
  · exact min_row g zs.length cap zs w' rfl hm (hr.below hb (Nat.lt_of_lt_of_le hr.1 hB))
end Go.Proofs.Qxb6626238a
