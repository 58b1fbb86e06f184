/-
  SEAT b6625877aD: the walk of 'zzWantIDB1', the law's own reading of a field.
-/
import Derived.Test.Qxb6625877aDoorSmall
namespace Go.Proofs.Qxb6625877aDoor
open Go.ChangeShapes Go.WideShapes Go.ChangeAt Go.RowKit

theorem ret_u32 {a b : Int} (h : a = b) : Ending.returned (.int .u32 a) = .returned (.int .u32 b) := by rw [h]
/-- The first k bytes are digits. -/
def Digits (s : ByteArray) (k : Nat) : Prop := ∀ j (h : j < s.size), j < k → 48 ≤ (s[j].toNat : Int) ∧ (s[j].toNat : Int) ≤ 57
theorem digits_zero (s : ByteArray) : Digits s 0 := fun _ _ h => absurd h (Nat.not_lt_zero _)
theorem digits_succ {s : ByteArray} {k : Nat} (h : Digits s k) (hk : k < s.size) (h1 : 48 ≤ (s[k].toNat : Int)) (h2 : (s[k].toNat : Int) ≤ 57) : Digits s (k + 1) := by
  intro j hj hjk
  by_cases e : j = k
  · subst e; exact ⟨h1, h2⟩
  · exact h j hj (by omega)
/-- Where the digits end: at the string's end, or at a byte that is none. -/
def Ends (s : ByteArray) (k : Nat) : Prop := k = s.size ∨ ∃ h : k < s.size, ¬ (48 ≤ (s[k].toNat : Int) ∧ (s[k].toNat : Int) ≤ 57)

/-- The second loop and what follows it: from the place at which the digits end. -/
def Val (s : ByteArray) (j v : Nat) : Prop := v ≤ 4294967295 ∧ idv s.data.toList = idm v (s.data.toList.drop j)
theorem val_zero (s : ByteArray) : Val s 0 0 := ⟨Nat.zero_le _, by rw [idv_eq]; rfl⟩
theorem val_next {s : ByteArray} {j v : Nat} (h : Val s j v) (hj : j < s.size) (h1 : 48 ≤ (s[j].toNat : Int)) (h2 : (s[j].toNat : Int) ≤ 57) (ho : v * 10 + (s[j].toNat - 48) ≤ 4294967295) : Val s (j + 1) (v * 10 + (s[j].toNat - 48)) := by
  refine ⟨ho, ?_⟩
  rw [h.2, drop_cons s j hj, idm_on v _ _ (by omega) h.1 ho]
theorem val_over {s : ByteArray} {j v : Nat} (h : Val s j v) (hj : j < s.size) (h1 : 48 ≤ (s[j].toNat : Int)) (h2 : (s[j].toNat : Int) ≤ 57) (ho : 4294967295 < v * 10 + (s[j].toNat - 48)) : idv s.data.toList = 4294967295 := by
  rw [h.2, drop_cons s j hj, idm_over v _ _ (by omega) h.1 ho]
theorem val_end {s : ByteArray} {v : Nat} (h : Val s s.size v) : idv s.data.toList = v := by
  rw [h.2, drop_all, idm_nil]
theorem val_other {s : ByteArray} {j v : Nat} (h : Val s j v) (hj : j < s.size) (hn : ¬ (48 ≤ (s[j].toNat : Int) ∧ (s[j].toNat : Int) ≤ 57)) : idv s.data.toList = 0 := by
  rw [h.2, drop_cons s j hj, idm_other v _ _ (by omega)]

set_option maxHeartbeats 2000000 in
theorem want_any (s : ByteArray) (w : World) (hs : s.size ≤ 9223372036854775807) :
    Calls Tryd.prog 7 #[.string s] w fun e w' => e = .returned (.int .u32 (idv s.data.toList)) ∧ w' = w := by
  go_enter Tryd.func7, Tryd.ntmps7
  go_wp2
  go_loop [3] (fun r => ∃ k : Nat, k ≤ s.size ∧ r = .int .i64 k ∧ Digits s k) (fun r => s.size - (intOf r).toNat)
  case atStart => exact ⟨0, Nat.zero_le _, rfl, digits_zero s⟩
  case round =>
    obtain ⟨k, hk, rfl, hd⟩ := hrel
    by_cases hin : ∃ hlt : k < s.size, 48 ≤ (s[k].toNat : Int) ∧ (s[k].toNat : Int) ≤ 57
    · obtain ⟨hlt, h1, h2⟩ := hin
      have hd' := digits_succ hd hlt h1 h2
      clear hd
      go_wp2
      go_round
      case rel => exact ⟨k + 1, by omega, by go_num, hd'⟩
      case measure => simp [intOf]; omega
    · have hE : Ends s k := by
        by_cases hlt : k < s.size
        · exact .inr ⟨hlt, fun h => hin ⟨hlt, h⟩⟩
        · exact .inl (by omega)
      clear hin
      have hcase : k = s.size ∨ (∃ hlt : k < s.size, (s[k].toNat : Int) < 48) ∨ (∃ hlt : k < s.size, 48 ≤ (s[k].toNat : Int) ∧ 57 < (s[k].toNat : Int)) := by
        rcases hE with h | ⟨hlt, h⟩
        · exact .inl h
        · by_cases h1 : 48 ≤ (s[k].toNat : Int)
          · exact .inr (.inr ⟨hlt, h1, by omega⟩)
          · exact .inr (.inl ⟨hlt, by omega⟩)
      rcases hcase with rfl | ⟨hlt, h1⟩ | ⟨hlt, h1, h2⟩
      · go_wp2
        go_loop [4, 5] (fun v j => ∃ m u : Nat, m ≤ s.size ∧ j = .int .i64 m ∧ v = .int .u64 u ∧ Val s m u) (fun _ j => s.size - (intOf j).toNat)
        case atStart => exact ⟨0, 0, Nat.zero_le _, rfl, rfl, val_zero s⟩
        case round =>
          obtain ⟨m, u, hm, rfl, rfl, hv⟩ := hrel
          have hu := hv.1
          by_cases hml : m < s.size
          · have hms : m < s.size := by omega
            obtain ⟨g1, g2⟩ := hd m hms hml
            by_cases ho : u * 10 + (s[m].toNat - 48) ≤ 4294967295
            · have hv' := val_next hv hms g1 g2 ho
              clear hv hd
              go_wp2
              go_round
              case rel => exact ⟨m + 1, u * 10 + (s[m].toNat - 48), by omega, by go_num, by go_num, hv'⟩
              case measure => simp [intOf]; omega
            · have hr := val_over hv hms g1 g2 (by omega)
              clear hv hd
              have HR : Hid (idv s.data.toList = 4294967295) := hr
              clear hr
              go_wp2
              go_ret
              exact ⟨ret_u32 (by rw [HR.out]; rfl), rfl⟩
          · have e : m = s.size := by omega
            subst e
            clear hd
            have hr := val_end hv
            have HR : Hid (idv s.data.toList = u) := hr
            clear hr hv
            go_wp2
            go_ret
            exact ⟨ret_u32 (by rw [HR.out]), rfl⟩
      · go_wp2
        go_loop [4, 5] (fun v j => ∃ m u : Nat, m ≤ k ∧ j = .int .i64 m ∧ v = .int .u64 u ∧ Val s m u) (fun _ j => k - (intOf j).toNat)
        case atStart => exact ⟨0, 0, Nat.zero_le _, rfl, rfl, val_zero s⟩
        case round =>
          obtain ⟨m, u, hm, rfl, rfl, hv⟩ := hrel
          have hu := hv.1
          by_cases hml : m < k
          · have hms : m < s.size := by omega
            obtain ⟨g1, g2⟩ := hd m hms hml
            by_cases ho : u * 10 + (s[m].toNat - 48) ≤ 4294967295
            · have hv' := val_next hv hms g1 g2 ho
              clear hv hd
              go_wp2
              go_round
              case rel => exact ⟨m + 1, u * 10 + (s[m].toNat - 48), by omega, by go_num, by go_num, hv'⟩
              case measure => simp [intOf]; omega
            · have hr := val_over hv hms g1 g2 (by omega)
              clear hv hd
              have HR : Hid (idv s.data.toList = 4294967295) := hr
              clear hr
              go_wp2
              go_ret
              exact ⟨ret_u32 (by rw [HR.out]; rfl), rfl⟩
          · obtain rfl : m = k := by omega
            clear hd
            have hr := val_other hv hlt (by omega)
            have HR : Hid (idv s.data.toList = 0) := hr
            clear hr hv
            go_wp2
            go_ret
            exact ⟨ret_u32 (by rw [HR.out]; rfl), rfl⟩
      · go_wp2
        go_loop [4, 5] (fun v j => ∃ m u : Nat, m ≤ k ∧ j = .int .i64 m ∧ v = .int .u64 u ∧ Val s m u) (fun _ j => k - (intOf j).toNat)
        case atStart => exact ⟨0, 0, Nat.zero_le _, rfl, rfl, val_zero s⟩
        case round =>
          obtain ⟨m, u, hm, rfl, rfl, hv⟩ := hrel
          have hu := hv.1
          by_cases hml : m < k
          · have hms : m < s.size := by omega
            obtain ⟨g1, g2⟩ := hd m hms hml
            by_cases ho : u * 10 + (s[m].toNat - 48) ≤ 4294967295
            · have hv' := val_next hv hms g1 g2 ho
              clear hv hd
              go_wp2
              go_round
              case rel => exact ⟨m + 1, u * 10 + (s[m].toNat - 48), by omega, by go_num, by go_num, hv'⟩
              case measure => simp [intOf]; omega
            · have hr := val_over hv hms g1 g2 (by omega)
              clear hv hd
              have HR : Hid (idv s.data.toList = 4294967295) := hr
              clear hr
              go_wp2
              go_ret
              exact ⟨ret_u32 (by rw [HR.out]; rfl), rfl⟩
          · obtain rfl : m = k := by omega
            clear hd
            have hr := val_other hv hlt (by omega)
            have HR : Hid (idv s.data.toList = 0) := hr
            clear hr hv
            go_wp2
            go_ret
            exact ⟨ret_u32 (by rw [HR.out]; rfl), rfl⟩
end Go.Proofs.Qxb6625877aDoor
