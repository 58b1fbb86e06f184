/-
  SEAT b6625877aD: the walk of 'FnIdAppendDigitShiftsValue'.
-/
import Derived.Test.Qxb6625877aDoorMem2
import Derived.Test.Qxb6625877aDoorId
import Derived.Test.Qxb6625877aDoorWant
import Derived.OpenShut
namespace Go.Proofs.Qxb6625877aDoor
open Go.ChangeShapes Go.WideShapes Go.ChangeAt Go.RowKit

theorem ret_bool {a b : Bool} (h : a = b) : Ending.returned (.bool a) = .returned (.bool b) := by rw [h]
theorem digits_all {s : ByteArray} (h : Digits s s.size) : ∀ c ∈ s.data.toList, 48 ≤ c.toNat ∧ c.toNat ≤ 57 := by
  intro c hc
  obtain ⟨j, hj, rfl⟩ := List.mem_iff_getElem.1 hc
  have hj' : j < s.size := by simpa using hj
  have := h j hj' hj'
  have e : s.data.toList[j] = s[j] := rfl
  rw [e]
  omega

theorem hid_str (x : ByteArray) : ∃ t, Hid (t = x) := ⟨x, Eq.refl x⟩

theorem app_nil (i d : Int) (w : World) :
    Calls Tryd.prog 4 #[.slice none 0 0, .int .i64 i, .int .u8 d] w fun e w' => e = .returned (.bool true) ∧ Below w.heap.size w w' := by
  by_cases h0 : i < 0
  · go_enter Tryd.func4, Tryd.ntmps4
    go_wp2_with (go_at_call 8; refine (bytes8_none _ _ _ _ _).mono ?_; rintro e w' ⟨rfl, rfl⟩)
    refine wp_loop_rounds 1 ?_
    rw [rounds_succ]
    go_wp2
    go_ret
    exact ⟨rfl, Below.refl _ _⟩
  · go_enter Tryd.func4, Tryd.ntmps4
    go_wp2_with (go_at_call 8; refine (bytes8_none _ _ _ _ _).mono ?_; rintro e w' ⟨rfl, rfl⟩)
    refine wp_loop_rounds 1 ?_
    rw [rounds_succ]
    go_wp2
    go_ret
    exact ⟨rfl, Below.refl _ _⟩

set_option maxHeartbeats 2000000 in
theorem app_walk (x : Addr) (len cap : Nat) (ss : List ByteArray) (i : Int) (c : UInt8) (w : World) (hS : Sentinels w) (hlen : len ≤ ss.length) (hmax : len ≤ 9223372036854775807)
    (hsz : ∀ j, j < len → (ss.getD j ByteArray.empty).size ≤ 9223372036854775807)
    (hc : ∀ j, j < len → w.cell? (x.add j) = some (.string (ss.getD j ByteArray.empty))) :
    Calls Tryd.prog 4 #[.slice (some x) len cap, .int .i64 i, .int .u8 (c.toNat : Int)] w fun e w' => e = .returned (.bool true) ∧ Below w.heap.size w w' := by
  have hc8 : (c.toNat : Int) ≤ 255 := by have := c.toNat_lt; omega
  go_enter Tryd.func4, Tryd.ntmps4
  go_wp2_with fail
  refine (bytes8_any x len cap ss i _ _ hlen hmax hsz hc).mono ?_
  rintro e w' ⟨⟨r, rfl, hr⟩, rfl⟩
  cases r with
  | false =>
    clear hr
    go_wp2_with fail
    go_ret
    exact ⟨rfl, Below.refl _ _⟩
  | true =>
    have hT := hr rfl
    clear hr hsz
    by_cases hl : len ≤ 65536
    · obtain ⟨w1, w2, hmk, hcp, hrow⟩ := copy_strings w' x len cap ss hlen hl hc
      have hlt2 := hrow.lt
      have hS2 : Sentinels w2 := hS.below hrow.old hS.lt
      have hc2 : ∀ j, j < len → w2.cell? ⟨w'.heap.size, j, none⟩ = some (.string (ss.getD j ByteArray.empty)) := fun j hj => hrow.cell j _ (sc_at ss len hlen j hj)
      have hbel := hrow.old
      clear hrow hc hS
      go_wp2_with fail
      clear hmk hcp
      go_loop [8, 9] (fun n j => ∃ k m : Nat, k ≤ len ∧ j = .int .i64 k ∧ m ≤ 1048576 ∧ n = .int .i64 m) (fun _ j => len - (intOf j).toNat)
      case atStart => exact ⟨0, 16 * len, Nat.zero_le _, rfl, by omega, by go_num⟩
      case round =>
        obtain ⟨k, m, hk, rfl, hm, rfl⟩ := hrel
        by_cases hlt : k < len
        · have hcell := hc2 k hlt
          have hs1 := T_one ss len k hlen hlt
          clear hc2
          generalize ss.getD k ByteArray.empty = s at hcell hs1
          have hs2 : s.size ≤ 1048576 := by omega
          clear hs1
          by_cases h2 : m + s.size ≤ 1048576
          · go_wp2
            go_round
            case rel => exact ⟨k + 1, m + s.size, by omega, by go_num, h2, by go_num⟩
            case measure => simp [intOf]; omega
          · go_wp2
            go_ret
            exact ⟨rfl, hbel⟩
        · have e : k = len := by omega
          subst e
          by_cases hi0 : i < 0
          · clear hc2
            go_wp2
            go_ret
            exact ⟨rfl, hbel⟩
          · by_cases hik : i < k
            · obtain ⟨n, rfl⟩ := Int.eq_ofNat_of_zero_le (show 0 ≤ i by omega)
              have hnk : n < k := by omega
              by_cases hd1 : (c.toNat : Int) < 48
              · clear hc2
                go_wp2
                go_ret
                exact ⟨rfl, hbel⟩
              · by_cases hd2 : 57 < (c.toNat : Int)
                · clear hc2
                  go_wp2
                  go_ret
                  exact ⟨rfl, hbel⟩
                · have hcell := hc2 n hnk
                  have hs1 := T_one ss k n hlen hnk
                  have HC2 : Hid (∀ j, j < k → w2.cell? ⟨w'.heap.size, j, none⟩ = some (.string (ss.getD j ByteArray.empty))) := hc2
                  clear hc2
                  obtain ⟨s, HSS⟩ : ∃ s, Hid (s = ss.getD n ByteArray.empty) := ⟨_, Eq.refl (ss.getD n ByteArray.empty)⟩
                  rw [← HSS.out] at hcell hs1
                  have hs2 : s.size ≤ 1048576 := by omega
                  clear hs1
                  go_wp2_with fail
                  go_loop [11] (fun z => ∃ q : Nat, q ≤ s.size ∧ z = .int .i64 q ∧ Digits s q) (fun z => s.size - (intOf z).toNat)
                  case atStart => exact ⟨0, Nat.zero_le _, rfl, digits_zero s⟩
                  case round =>
                    obtain ⟨q, hq, rfl, hd⟩ := hrel
                    by_cases hqs : q < s.size
                    · by_cases h1 : (s[q].toNat : Int) < 48
                      · go_wp2
                        go_ret
                        exact ⟨rfl, hbel⟩
                      · by_cases h2 : 57 < (s[q].toNat : Int)
                        · go_wp2
                          go_ret
                          exact ⟨rfl, hbel⟩
                        · have hd' := digits_succ hd hqs (by omega) (by omega)
                          clear hd
                          go_wp2
                          go_round
                          case rel => exact ⟨q + 1, by omega, by go_num, hd'⟩
                          case measure => simp [intOf]; omega
                    · have e : q = s.size := by omega
                      subst e
                      have hv := idv_snoc c (by omega) s.data.toList (digits_all hd)
                      clear hd
                      -- the row of bytes
                      obtain ⟨w3, w4, v0, hmk2, hcp2, hrow2⟩ := make_bytes w2 s hs2
                      have hc4 := hrow2.cell s.size v0 (bc_at s v0)
                      have hf4 := hrow2.free s.size
                      have hg4 := hrow2.lt
                      have hrow5 := hrow2.set (Nat.le_refl _) s.size (.int .u8 (c.toNat : Int))
                      rw [bc_last] at hrow5
                      -- the second copy of the fields
                      obtain ⟨w6, w7, hmk3, hcp3, hrow7⟩ := copy_strings (w4.setCell ⟨w2.heap.size, s.size, none⟩ (.int .u8 (c.toNat : Int))) ⟨w'.heap.size, 0, none⟩ k k ss hlen hl (fun j hj => by
                        have e : (⟨w'.heap.size, 0, none⟩ : Addr).add j = ⟨w'.heap.size, j, none⟩ := by unfold Addr.add; split <;> simp_all
                        rw [e, hrow5.old.cell (p := ⟨w'.heap.size, j, none⟩) hlt2]
                        exact HC2.out j hj)
                      have h5 : (w4.setCell ⟨w2.heap.size, s.size, none⟩ (.int .u8 (c.toNat : Int))).heap.size = w4.heap.size := by simp [World.setCell]
                      have hcv := string_of_row w7 w2.heap.size (s.size + 1) (s.data.toList ++ [c]) (by simp) (hrow5.keep hrow7)
                      have hc7 := hrow7.cell n _ (sc_at ss k hlen n hnk)
                      have hf7 := hrow7.free n
                      have hg7 := hrow7.lt
                      obtain ⟨t, HT⟩ := hid_str ⟨(s.data.toList ++ [c]).toArray⟩
                      rw [← HT.out] at hcv
                      have ht1 : t.data.toList = s.data.toList ++ [c] := by rw [HT.out]
                      have ht2 : t.size ≤ 1048577 := by
                        have : t.data.toList.length = s.size + 1 := by rw [ht1]; simp
                        simp at this; omega
                      have hrow8 := hrow7.set (Nat.le_refl _) n (.string t)
                      have hct8 := hrow8.cell n (.string t) (by rw [List.getElem?_set_self (by rw [sc_length ss k hlen]; exact hnk)])
                      have hg8 := hrow8.lt
                      have hB8 := hrow5.old.trans (hrow8.old.mono hrow5.old.size)
                      rw [h5] at hmk3 hcp3 hc7 hf7 hct8 hg8 hB8
                      have hS8 := hS2.below hB8 hS2.lt
                      have hcell8 := (hB8.cell (p := ⟨w'.heap.size, n, none⟩) hlt2).trans hcell
                      have hB0 := hbel.trans (hB8.mono hbel.size)
                      have hu := idv_le s.data.toList
                      rw [← ht1] at hv
                      have hu2 := idv_le t.data.toList
                      have HV : Hid (idv t.data.toList = min (idv s.data.toList * 10 + (c.toNat - 48)) 4294967295) := hv
                      clear hv ht1 hrow8 hrow7 hrow5 hrow2 h5 hB8 hS2 hbel
                      go_wp2_with fail
                      refine (zzid_any w'.heap.size k k n s (by omega) _ hS8 hnk hl hcell8).mono ?_
                      rintro e w9 ⟨rfl, hb9⟩
                      have hS9 := hS8.below hb9 hS8.lt
                      have hct9 := (hb9.cell (p := ⟨w4.heap.size, n, none⟩) hg8).trans hct8
                      have hB9 := hB0.trans (hb9.mono hB0.size)
                      clear hct8 hcell8 hS8 hmk2 hcp2 hmk3 hcp3 hcv hc4 hf4 hc7 hf7 hg8 hb9 hB0
                      go_wp2_with fail
                      refine (zzid_any w4.heap.size k k n t (by omega) _ hS9 hnk hl hct9).mono ?_
                      rintro e w10 ⟨rfl, hb10⟩
                      have hB10 := hB9.trans (hb10.mono hB9.size)
                      clear hct9 hS9 hb10 hB9
                      by_cases hw : idv s.data.toList * 10 + (c.toNat - 48) ≤ 4294967295
                      · go_wp2_with fail
                        go_ret
                        exact ⟨ret_bool (by rw [beq_iff_eq]; have := HV.out; omega), hB10⟩
                      · go_wp2_with fail
                        go_ret
                        exact ⟨ret_bool (by rw [beq_iff_eq]; have := HV.out; omega), hB10⟩
            · clear hc2
              go_wp2
              go_ret
              exact ⟨rfl, hbel⟩
    · clear hc hS
      go_wp2_with fail
      go_ret
      exact ⟨rfl, Below.refl _ _⟩

/-- The same at any byte that fits its kind. -/
theorem app_some (x : Addr) (len cap : Nat) (ss : List ByteArray) (i d : Int) (w : World) (hd : (Lit.int .u8 d).wf = true) (hS : Sentinels w) (hlen : len ≤ ss.length) (hmax : len ≤ 9223372036854775807)
    (hsz : ∀ j, j < len → (ss.getD j ByteArray.empty).size ≤ 9223372036854775807)
    (hc : ∀ j, j < len → w.cell? (x.add j) = some (.string (ss.getD j ByteArray.empty))) :
    Calls Tryd.prog 4 #[.slice (some x) len cap, .int .i64 i, .int .u8 d] w fun e w' => e = .returned (.bool true) ∧ Below w.heap.size w w' := by
  have hb := bounds_u8 hd
  have e : d = ((UInt8.ofNat d.toNat).toNat : Int) := by
    rw [UInt8.toNat_ofNat']; omega
  rw [e]
  exact app_walk x len cap ss i _ w hS hlen hmax hsz hc
end Go.Proofs.Qxb6625877aDoor
