/-
  SEAT b6626208a: the walk of 'zzDomainSplit'.
-/
import Derived.Test.Qxb6626208aNext
import Derived.Laws.IdiomStrings
namespace Go.Proofs.Qxb6626208a
open Go.RowKit

/-- What 'zzDomainSplit' answers: where the third is true, s opens with the canonical prefix. -/
def SplitEnd (s : ByteArray) (e : Ending) : Prop := ∃ (k m : Nat) (ok : Bool), e = .returned (.tuple #[.int .i64 (k : Int), .int .i64 (m : Int), .bool ok]) ∧ (ok = true → Starts s k m)
theorem splitEnd_no (s : ByteArray) : SplitEnd s (.returned (.tuple #[.int .i64 0, .int .i64 0, .bool false])) := ⟨0, 0, false, rfl, fun h => by cases h⟩
theorem splitEnd_yes {s : ByteArray} {k m : Nat} (h : Starts s k m) : SplitEnd s (.returned (.tuple #[.int .i64 (k : Int), .int .i64 (m : Int), .bool true])) := ⟨k, m, true, rfl, fun _ => h⟩

theorem hid_world (x : World) : ∃ W, Hid (W = x) := ⟨x, Eq.refl x⟩
theorem prefix_cells (w1 : World) (m : Nat) : ∀ j, j < 3 → (w1.alloc (.cells #[.int .u8 (eb m 0 : Nat), .int .u8 (eb m 1 : Nat), .int .u8 (eb m 2 : Nat)] 28)).cell? ⟨w1.heap.size, j, none⟩ = some (.int .u8 (eb m j : Nat)) := by
  intro j hj
  rw [World.cell?_alloc_mark]
  match j, hj with
  | 0, _ => rfl
  | 1, _ => rfl
  | 2, _ => rfl

set_option maxRecDepth 100000 in
set_option maxHeartbeats 1000000 in
theorem split_any (s : ByteArray) (hs : s.size ≤ 1048576) (w : World) :
    Calls Try.prog 6 #[.string s] w fun e w' => SplitEnd s e ∧ Below w.heap.size w w' := by
  go_enter Try.func6, Try.ntmps6
  go_wp2
  go_loopw [5] (fun mm wr => ∃ m : Nat, m ≤ s.size + 1 ∧ mm = .int .i64 m ∧ Below w.heap.size w wr) (fun mm _ => s.size + 1 - (intOf mm).toNat)
  case atStart => exact ⟨0, Nat.zero_le _, rfl, Below.refl _ _⟩
  case round =>
    obtain ⟨m, hm, rfl, hbel⟩ := hrel
    obtain ⟨wo, rfl⟩ : ∃ wo : World, wo = wr := ⟨_, rfl⟩
    by_cases hms : m ≤ s.size
    · have hk1 := ek_pos m
      have hk3 := ek_le m
      by_cases hfit : ek m + m ≤ s.size
      · go_wp2_with fail
        refine (enc_any m (by omega) _).mono ?_
        rintro e w1 ⟨rfl, hb1⟩
        go_wp2_with fail
        have hBp : Below w.heap.size w (w1.alloc (.cells #[.int .u8 (eb m 0 : Nat), .int .u8 (eb m 1 : Nat), .int .u8 (eb m 2 : Nat)] 28)) :=
          (hbel.trans (hb1.mono hbel.size)).alloc (Nat.le_trans hbel.size hb1.size) _
        have hP := prefix_cells w1 m
        obtain ⟨W, HWW⟩ := hid_world (w1.alloc (.cells #[.int .u8 (eb m 0 : Nat), .int .u8 (eb m 1 : Nat), .int .u8 (eb m 2 : Nat)] 28))
        rw [← HWW.out] at hBp hP
        rw [← HWW.out]
        have hWs : w1.heap.size + 1 = W.heap.size := by rw [HWW.out]; simp
        obtain ⟨B, HB⟩ : ∃ B : Nat, Hid (B = w1.heap.size) := ⟨_, Eq.refl w1.heap.size⟩
        rw [← HB.out] at hP hWs
        rw [← HB.out]
        have hBW : B < W.heap.size := by omega
        clear hb1 HB HWW hWs
        go_loopw [8, 9] (fun q j wr => ∃ (n : Nat) (ok : Bool), n ≤ ek m ∧ j = .int .i64 n ∧ q = .bool ok ∧ Hid (ok = true → ∀ i, i < n → at_ s i = eb m i) ∧ Below W.heap.size W wr) (fun _ j _ => ek m - (intOf j).toNat)
        case atStart => exact ⟨0, true, Nat.zero_le _, rfl, rfl, fun _ i hi => absurd hi (Nat.not_lt_zero _), Below.refl _ _⟩
        case round =>
          obtain ⟨n, ok, hn, rfl, rfl, HQ, hbW⟩ := hrel
          by_cases hnk : n < ek m
          · have hcell : wr.cell? ⟨B, n, none⟩ = some (.int .u8 (eb m n : Nat)) := (hbW.cell (p := ⟨B, n, none⟩) hBW).trans (hP n (by omega))
            have hns : n < s.size := by omega
            have hn3 : n < 3 := by omega
            have heb := eb_lt m n (by omega)
            by_cases heq : s[n].toNat = eb m n
            · have hcmp : ((s[n].toNat : Int) != ((eb m n : Nat) : Int)) = false := by rw [bne_eq_false_iff_eq, heq]
              have HQ' : Hid (ok = true → ∀ i, i < n + 1 → at_ s i = eb m i) := fun ho i hi => by
                by_cases e : i = n
                · subst e; rw [at_eq s i hns]; exact heq
                · exact HQ.out ho i (by omega)
              clear heq HQ hP
              go_wp2_with fail
              go_quiet (fail)
              go_wp2
              go_roundw
              case rel => exact ⟨n + 1, ok, by omega, by go_num, rfl, HQ', below_drewN hbW _⟩
              case measure => simp [intOf]; omega
            · have hcmp : ((s[n].toNat : Int) != ((eb m n : Nat) : Int)) = true := by rw [bne_iff_ne]; omega
              clear heq HQ hP
              go_wp2_with fail
              go_quiet (fail)
              go_wp2
              go_roundw
              case rel => exact ⟨n + 1, false, by omega, by go_num, rfl, (fun h => by cases h), below_drewN hbW _⟩
              case measure => simp [intOf]; omega
          · have e : n = ek m := by omega
            have HE : Hid (n = ek m) := e
            clear e hP
            cases ok with
            | true =>
              have hst : Starts s (ek m) m := ⟨rfl, by omega, hfit, fun j hj => HQ.out rfl j (by rw [HE.out]; exact hj)⟩
              clear HQ
              go_wp2_with fail
              go_ret3
              exact ⟨splitEnd_yes hst, hBp.trans (hbW.mono hBp.size)⟩
            | false =>
              clear HQ
              go_wp2_with fail
              go_roundw
              case rel => exact ⟨m + 1, by omega, by go_num, hBp.trans (hbW.mono hBp.size)⟩
              case measure => simp [intOf]; omega
      · go_wp2_with fail
        refine (enc_any m (by omega) _).mono ?_
        rintro e w1 ⟨rfl, hb1⟩
        go_wp2_with fail
        go_ret3
        exact ⟨splitEnd_no s, (hbel.trans (hb1.mono hbel.size)).alloc (Nat.le_trans hbel.size hb1.size) _⟩
    · go_wp2_with fail
      go_ret3
      exact ⟨splitEnd_no s, hbel⟩
end Go.Proofs.Qxb6626208a
