/-
  SEAT b6625877aD: the walk of 'FnIdIsDecimalValueOfField'.
-/
import Derived.Test.Qxb6625877aDoorMem
import Derived.Test.Qxb6625877aDoorId
import Derived.Test.Qxb6625877aDoorWant
namespace Go.Proofs.Qxb6625877aDoor
open Go.ChangeShapes Go.WideShapes Go.ChangeAt Go.RowKit

theorem is_nil (i : Int) (w : World) :
    Calls Tryd.prog 3 #[.slice none 0 0, .int .i64 i] w fun e w' => e = .returned (.bool true) ∧ Below w.heap.size w w' := by
  by_cases h0 : i < 0
  · go_enter Tryd.func3, Tryd.ntmps3
    go_wp2_with (go_at_call 5; refine (bytes5_none _ _ _ _).mono ?_; rintro e w' ⟨rfl, rfl⟩)
    refine wp_loop_rounds 1 ?_
    rw [rounds_succ]
    go_wp2
    go_ret
    exact ⟨rfl, Below.refl _ _⟩
  · go_enter Tryd.func3, Tryd.ntmps3
    go_wp2_with (go_at_call 5; refine (bytes5_none _ _ _ _).mono ?_; rintro e w' ⟨rfl, rfl⟩)
    refine wp_loop_rounds 1 ?_
    rw [rounds_succ]
    go_wp2
    go_ret
    exact ⟨rfl, Below.refl _ _⟩

set_option maxHeartbeats 1000000 in
theorem is_some (x : Addr) (len cap : Nat) (ss : List ByteArray) (i : Int) (w : World) (hS : Sentinels w) (hlen : len ≤ ss.length) (hmax : len ≤ 9223372036854775807)
    (hsz : ∀ j, j < len → (ss.getD j ByteArray.empty).size ≤ 9223372036854775807)
    (hc : ∀ j, j < len → w.cell? (x.add j) = some (.string (ss.getD j ByteArray.empty))) :
    Calls Tryd.prog 3 #[.slice (some x) len cap, .int .i64 i] w fun e w' => e = .returned (.bool true) ∧ Below w.heap.size w w' := by
  go_enter Tryd.func3, Tryd.ntmps3
  go_wp2_with fail
  refine (bytes5_any x len cap ss i _ hlen hmax hsz hc).mono ?_
  rintro e w' ⟨⟨r, rfl, hr⟩, rfl⟩
  cases r with
  | false =>
    clear hr
    go_wp2_with fail
    go_ret
    exact ⟨rfl, Below.refl _ _⟩
  | true =>
    have hT := hr rfl
    clear hr hsz
    by_cases hl : len ≤ 65536
    · obtain ⟨w1, w2, hmk, hcp, hrow⟩ := copy_strings w' x len cap ss hlen hl hc
      have hlt2 := hrow.lt
      have hS2 : Sentinels w2 := hS.below hrow.old hS.lt
      have hc2 : ∀ j, j < len → w2.cell? ⟨w'.heap.size, j, none⟩ = some (.string (ss.getD j ByteArray.empty)) := fun j hj => hrow.cell j _ (sc_at ss len hlen j hj)
      have hbel := hrow.old
      clear hrow hc hS
      go_wp2_with fail
      clear hmk hcp
      go_loop [6, 7] (fun n j => ∃ k m : Nat, k ≤ len ∧ j = .int .i64 k ∧ m ≤ 1048576 ∧ n = .int .i64 m) (fun _ j => len - (intOf j).toNat)
      case atStart => exact ⟨0, 16 * len, Nat.zero_le _, rfl, by omega, by go_num⟩
      case round =>
        obtain ⟨k, m, hk, rfl, hm, rfl⟩ := hrel
        by_cases hlt : k < len
        · have hcell := hc2 k hlt
          have hs1 := T_one ss len k hlen hlt
          clear hc2
          generalize ss.getD k ByteArray.empty = s at hcell hs1
          have hs2 : s.size ≤ 1048576 := by omega
          clear hs1
          by_cases h2 : m + s.size ≤ 1048576
          · go_wp2
            go_round
            case rel => exact ⟨k + 1, m + s.size, by omega, by go_num, h2, by go_num⟩
            case measure => simp [intOf]; omega
          · go_wp2
            go_ret
            exact ⟨rfl, hbel⟩
        · have e : k = len := by omega
          subst e
          by_cases hi0 : i < 0
          · clear hc2
            go_wp2
            go_ret
            exact ⟨rfl, hbel⟩
          · by_cases hik : i < k
            · obtain ⟨n, rfl⟩ := Int.eq_ofNat_of_zero_le (show 0 ≤ i by omega)
              have hnk : n < k := by omega
              have hcell := hc2 n hnk
              have hs1 := T_one ss k n hlen hnk
              clear hc2
              generalize ss.getD n ByteArray.empty = s at hcell hs1
              have hs2 : s.size ≤ 1048576 := by omega
              clear hs1
              go_wp2_with fail
              refine (zzid_any w'.heap.size k k n s (by omega) _ hS2 hnk hl hcell).mono ?_
              rintro e w3 ⟨rfl, hb3⟩
              have hcell3 := (hb3.cell (p := ⟨w'.heap.size, n, none⟩) hlt2).trans hcell
              clear hcell
              go_wp2_with fail
              refine (want_any s _ (by omega)).mono ?_
              rintro e w4 ⟨rfl, rfl⟩
              go_wp2_with fail
              go_ret
              exact ⟨rfl, hbel.trans (hb3.mono (by omega))⟩
            · clear hc2
              go_wp2
              go_ret
              exact ⟨rfl, hbel⟩
    · clear hc hS
      go_wp2_with fail
      go_ret
      exact ⟨rfl, Below.refl _ _⟩
end Go.Proofs.Qxb6625877aDoor
