/-
  SEAT b6625877aD: the walks of the bound's test (twice, one a law) and of 'zzWantIDB1', the law's own reading of a field.
-/
import Derived.Test.Qxb6625877aDoorRows
import Derived.Test.Qxb6625877aDoorPlain
import Derived.WalkKit
import Derived.WalkSpells
import Derived.ProofKit
namespace Go.Proofs.Qxb6625877aDoor
open Go.ChangeShapes Go.WideShapes Go.ChangeAt Go.RowKit

/-- What the bound's test answers: true only where all the lengths add up to at most 1<<20. -/
def BytesEnd (n : Nat) (e : Ending) : Prop := ∃ r : Bool, e = .returned (.bool r) ∧ (r = true → n ≤ 1048576)
theorem bytesEnd_no (n : Nat) : BytesEnd n (.returned (.bool false)) := ⟨false, rfl, fun h => by cases h⟩
theorem bytesEnd_yes {n : Nat} (h : n ≤ 1048576) : BytesEnd n (.returned (.bool true)) := ⟨true, rfl, fun _ => h⟩

set_option maxHeartbeats 400000 in
theorem bytes5_some (b off len cap : Nat) (ss : List ByteArray) (i : Int) (w : World) (hlen : len ≤ ss.length) (hmax : len ≤ 9223372036854775807)
    (hsz : ∀ j, j < len → (ss.getD j ByteArray.empty).size ≤ 9223372036854775807)
    (hc : ∀ j, j < len → w.cell? ⟨b, off + j, none⟩ = some (.string (ss.getD j ByteArray.empty))) :
    Calls Tryd.prog 5 #[.slice (some ⟨b, off, none⟩) len cap, .int .i64 i] w fun e w' => BytesEnd (len + T ss len) e ∧ w' = w := by
  by_cases hl : len ≤ 1048576
  · go_enter Tryd.func5, Tryd.ntmps5
    go_wp2
    go_loop [5, 6] (fun n i => ∃ k : Nat, k ≤ len ∧ i = .int .i64 k ∧ n = .int .i64 (len + T ss k : Nat) ∧ len + T ss k ≤ 1048576) (fun _ i => len - (intOf i).toNat)
    case atStart => exact ⟨0, Nat.zero_le _, rfl, by simp [T_zero], by rw [T_zero]; omega⟩
    case round =>
      obtain ⟨k, hk, rfl, rfl, hT⟩ := hrel
      by_cases hlt : k < len
      · have hcell := hc k hlt
        have hs1 := hsz k hlt
        have hts := T_succ ss k (by omega)
        clear hc hsz
        generalize ss.getD k ByteArray.empty = s at hcell hs1 hts
        have HT : Hid (T ss (k + 1) = T ss k + s.size) := hts
        clear hts
        by_cases h1 : s.size ≤ 1048576
        · by_cases h2 : len + T ss k + s.size ≤ 1048576
          · go_wp2
            go_round
            case rel => exact ⟨k + 1, by omega, by go_num, by rw [HT.out]; go_num, by rw [HT.out]; omega⟩
            case measure => simp [intOf]; omega
          · go_wp2
            go_ret
            exact ⟨bytesEnd_no _, rfl⟩
        · go_wp2
          go_ret
          exact ⟨bytesEnd_no _, rfl⟩
      · have e : k = len := by omega
        subst e
        go_wp2
        go_ret
        exact ⟨bytesEnd_yes hT, rfl⟩
  · go_enter Tryd.func5, Tryd.ntmps5
    go_wp2
    go_ret
    exact ⟨bytesEnd_no _, rfl⟩

theorem bytes5_none (ao : Option Addr) (cap : Nat) (i : Int) (w : World) :
    Calls Tryd.prog 5 #[.slice ao 0 cap, .int .i64 i] w fun e w' => e = .returned (.bool true) ∧ w' = w := by
  go_enter Tryd.func5, Tryd.ntmps5
  go_wp2
  refine wp_loop_rounds 1 ?_
  rw [rounds_succ]
  go_wp2
  go_ret
  exact ⟨rfl, rfl⟩

theorem bytes5_any (x : Addr) (len cap : Nat) (ss : List ByteArray) (i : Int) (w : World) (hlen : len ≤ ss.length) (hmax : len ≤ 9223372036854775807)
    (hsz : ∀ j, j < len → (ss.getD j ByteArray.empty).size ≤ 9223372036854775807)
    (hc : ∀ j, j < len → w.cell? (x.add j) = some (.string (ss.getD j ByteArray.empty))) :
    Calls Tryd.prog 5 #[.slice (some x) len cap, .int .i64 i] w fun e w' => BytesEnd (len + T ss len) e ∧ w' = w := by
  by_cases hl : len = 0
  · subst hl
    refine (bytes5_none (some x) cap i w).mono ?_
    rintro e w' ⟨rfl, rfl⟩
    exact ⟨bytesEnd_yes (by rw [T_zero]; omega), rfl⟩
  · obtain ⟨b, off, spot⟩ := x
    have hspot : spot = none := by simpa [Addr.add] using World.cell?_spot (hc 0 (by omega))
    subst hspot
    exact bytes5_some b off len cap ss i w hlen hmax hsz (fun j hj => by rw [← add_plain]; exact hc j hj)

set_option maxHeartbeats 400000 in
theorem bytes8_some (b off len cap : Nat) (ss : List ByteArray) (i d : Int) (w : World) (hlen : len ≤ ss.length) (hmax : len ≤ 9223372036854775807)
    (hsz : ∀ j, j < len → (ss.getD j ByteArray.empty).size ≤ 9223372036854775807)
    (hc : ∀ j, j < len → w.cell? ⟨b, off + j, none⟩ = some (.string (ss.getD j ByteArray.empty))) :
    Calls Tryd.prog 8 #[.slice (some ⟨b, off, none⟩) len cap, .int .i64 i, .int .u8 d] w fun e w' => BytesEnd (len + T ss len) e ∧ w' = w := by
  by_cases hl : len ≤ 1048576
  · go_enter Tryd.func8, Tryd.ntmps8
    go_wp2
    go_loop [7, 8] (fun n i => ∃ k : Nat, k ≤ len ∧ i = .int .i64 k ∧ n = .int .i64 (len + T ss k : Nat) ∧ len + T ss k ≤ 1048576) (fun _ i => len - (intOf i).toNat)
    case atStart => exact ⟨0, Nat.zero_le _, rfl, by simp [T_zero], by rw [T_zero]; omega⟩
    case round =>
      obtain ⟨k, hk, rfl, rfl, hT⟩ := hrel
      by_cases hlt : k < len
      · have hcell := hc k hlt
        have hs1 := hsz k hlt
        have hts := T_succ ss k (by omega)
        clear hc hsz
        generalize ss.getD k ByteArray.empty = s at hcell hs1 hts
        have HT : Hid (T ss (k + 1) = T ss k + s.size) := hts
        clear hts
        by_cases h1 : s.size ≤ 1048576
        · by_cases h2 : len + T ss k + s.size ≤ 1048576
          · go_wp2
            go_round
            case rel => exact ⟨k + 1, by omega, by go_num, by rw [HT.out]; go_num, by rw [HT.out]; omega⟩
            case measure => simp [intOf]; omega
          · go_wp2
            go_ret
            exact ⟨bytesEnd_no _, rfl⟩
        · go_wp2
          go_ret
          exact ⟨bytesEnd_no _, rfl⟩
      · have e : k = len := by omega
        subst e
        go_wp2
        go_ret
        exact ⟨bytesEnd_yes hT, rfl⟩
  · go_enter Tryd.func8, Tryd.ntmps8
    go_wp2
    go_ret
    exact ⟨bytesEnd_no _, rfl⟩

theorem bytes8_none (ao : Option Addr) (cap : Nat) (i d : Int) (w : World) :
    Calls Tryd.prog 8 #[.slice ao 0 cap, .int .i64 i, .int .u8 d] w fun e w' => e = .returned (.bool true) ∧ w' = w := by
  go_enter Tryd.func8, Tryd.ntmps8
  go_wp2
  refine wp_loop_rounds 1 ?_
  rw [rounds_succ]
  go_wp2
  go_ret
  exact ⟨rfl, rfl⟩

theorem bytes8_any (x : Addr) (len cap : Nat) (ss : List ByteArray) (i d : Int) (w : World) (hlen : len ≤ ss.length) (hmax : len ≤ 9223372036854775807)
    (hsz : ∀ j, j < len → (ss.getD j ByteArray.empty).size ≤ 9223372036854775807)
    (hc : ∀ j, j < len → w.cell? (x.add j) = some (.string (ss.getD j ByteArray.empty))) :
    Calls Tryd.prog 8 #[.slice (some x) len cap, .int .i64 i, .int .u8 d] w fun e w' => BytesEnd (len + T ss len) e ∧ w' = w := by
  by_cases hl : len = 0
  · subst hl
    refine (bytes8_none (some x) cap i  d w).mono ?_
    rintro e w' ⟨rfl, rfl⟩
    exact ⟨bytesEnd_yes (by rw [T_zero]; omega), rfl⟩
  · obtain ⟨b, off, spot⟩ := x
    have hspot : spot = none := by simpa [Addr.add] using World.cell?_spot (hc 0 (by omega))
    subst hspot
    exact bytes8_some b off len cap ss i  d w hlen hmax hsz (fun j hj => by rw [← add_plain]; exact hc j hj)
end Go.Proofs.Qxb6625877aDoor
