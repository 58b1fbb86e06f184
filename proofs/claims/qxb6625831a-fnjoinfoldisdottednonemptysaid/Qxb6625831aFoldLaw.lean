/-
  SEAT b6625831a: THE PROOF OF 'Rows.FnJoinFoldIsDottedNonEmptySaid'.
-/
import Derived.Test.Qxb6625831aDotted
import Derived.ProofKit
import Derived.OpenShut
import Derived.ShutString
import Derived.ChangeOld
import Derived.Below
namespace Go.Proofs.Qxb6625831a.fnJoinFold
open Go.ChangeShapes Go.WideShapes Go.ChangeAt Go.RowKit

theorem own : ownKnob Try.prog.godebug = none := by kernel_rfl
theorem laidOut : laidOutB Try.prog = true := by kernel_rfl
theorem cells9 : Try.prog.cellsOf 9 = 1 := by kernel_rfl

/-! ### THE EMPTY SLICE -/
theorem dotted_none (ao : Option Addr) (cap : Nat) (w : World) :
    Calls Try.prog 7 #[.slice ao 0 cap] w fun e w' => e = .returned (.string ⟨#[]⟩) ∧ Below w.heap.size w w' := by
  have hcv : ∀ wx, (convert 27 9 (.slice (some ⟨w.heap.size, 0, none⟩) 0 0)).run Try.prog wx = .ok (.string ⟨#[]⟩) wx := fun wx =>
    run_convert_bytes_back wx 27 9 5 ⟨w.heap.size, 0, none⟩ 0 [] Try.underlying27 Try.underlying5 Try.underlying9 (fun j hj => absurd hj (by simp))
  go_enter Try.func7, Try.ntmps7
  go_wp2
  refine wp_loop_rounds 1 ?_
  rw [rounds_succ]
  go_wp2
  go_ret
  exact ⟨rfl, (Below.refl _ _).alloc (Nat.le_refl _) _⟩

theorem walk_none (ao : Option Addr) (cap : Nat) (w : World) :
    Calls Try.prog 3 #[.slice ao 0 cap] w fun e w' => e = .returned (.bool true) ∧ Below w.heap.size w w' := by
  go_enter Try.func3, Try.ntmps3
  go_wp2_with (go_at_call 5; refine (bytes_none _ _ _).mono ?_; rintro e w' ⟨rfl, rfl⟩)
  refine wp_loop_rounds 1 ?_
  rw [rounds_succ]
  go_wp2_with fail
  refine wp_loop_rounds 1 ?_
  rw [rounds_succ]
  go_wp2_with fail
  refine (dotted_none _ _ _).mono ?_
  rintro e w' ⟨rfl, hb⟩
  go_wp2_with fail
  go_ret
  exact ⟨rfl, hb⟩

set_option maxHeartbeats 1000000 in
theorem walk_some (b off len cap : Nat) (ss : List ByteArray) (w : World) (hlen : len ≤ ss.length) (hmax : len ≤ 9223372036854775807) (hb : b < w.heap.size)
    (hsz : ∀ j, j < len → (ss.getD j ByteArray.empty).size ≤ 9223372036854775807)
    (hc : ∀ j, j < len → w.cell? ⟨b, off + j, none⟩ = some (.string (ss.getD j ByteArray.empty))) :
    Calls Try.prog 3 #[.slice (some ⟨b, off, none⟩) len cap] w fun e w' => e = .returned (.bool true) ∧ Below w.heap.size w w' := by
  go_enter Try.func3, Try.ntmps3
  go_wp2_with fail
  refine (bytes_any b off len cap ss _ hlen hmax hsz hc).mono ?_
  rintro e w' ⟨⟨r, rfl, hr⟩, rfl⟩
  cases r with
  | false =>
    clear hr
    go_wp2_with fail
    go_ret
    exact ⟨rfl, Below.refl _ _⟩
  | true =>
    have hT := hr rfl
    clear hr
    go_wp2_with fail
    go_loop [3, 4] (fun n i => ∃ k m : Nat, k ≤ len ∧ i = .int .i64 k ∧ m ≤ 1048576 ∧ n = .int .i64 m) (fun _ i => len - (intOf i).toNat)
    case atStart => exact ⟨0, 0, Nat.zero_le _, rfl, Nat.zero_le _, rfl⟩
    case round =>
      obtain ⟨k, m, hk, rfl, hm, rfl⟩ := hrel
      by_cases hlt : k < len
      · have hcell := hc k hlt
        have hs1 : (ss.getD k ByteArray.empty).size ≤ 1048576 := by
          have := T_succ ss k (by omega)
          have := T_mono ss (k + 1) len (by omega)
          omega
        clear hc hsz
        generalize ss.getD k ByteArray.empty = s at hcell hs1
        by_cases h2 : m + (16 + s.size) ≤ 1048576
        · go_wp2
          go_round
          case rel => exact ⟨k + 1, m + (16 + s.size), by omega, by go_num, h2, by go_num⟩
          case measure => simp [intOf]; omega
        · go_wp2
          go_ret
          exact ⟨rfl, Below.refl _ _⟩
      · have e : k = len := by omega
        subst e
        go_wp2_with fail
        go_loop [5, 6] (fun a i => ∃ j : Nat, j ≤ k ∧ i = .int .i64 j ∧ a = .string (F ss j)) (fun _ i => k - (intOf i).toNat)
        case atStart => exact ⟨0, Nat.zero_le _, rfl, rfl⟩
        case round =>
          obtain ⟨j, hj, rfl, rfl⟩ := hrel
          by_cases hlt : j < k
          · have hcell := hc j hlt
            have hfs := F_succ ss j (by omega)
            have hbd : (F ss j).size + (ss.getD j ByteArray.empty).size + 1 ≤ 9223372036854775807 := by
              have := T_succ ss j (by omega)
              have := T_mono ss (j + 1) k (by omega)
              have := F_size ss j (by omega)
              omega
            clear hc hsz
            generalize ss.getD j ByteArray.empty = s at hcell hfs hbd
            have HF : Hid (F ss (j + 1) = J (F ss j) s) := hfs
            clear hfs
            go_wp2_with (go_at_call 6; refine (zzjoin_any _ _ hbd _).mono ?_; rintro e w' ⟨rfl, rfl⟩)
            go_round
            case rel => exact ⟨j + 1, by omega, by go_num, by rw [HF.out]⟩
            case measure => simp [intOf]; omega
          · have e : j = k := by omega
            subst e
            go_wp2_with fail
            refine (dotted_any b off j cap ss _ hlen hT hb hc).mono ?_
            rintro e w' ⟨rfl, hbel⟩
            clear hc hsz
            go_wp2_with fail
            go_ret
            exact ⟨rfl, hbel⟩

/-! ### THE ROW's STEP -/
set_option maxRecDepth 100000 in
theorem lifted (os : Os) (started : os.Started) (H : Type) (enc : TypeId × Value → H) :
    ReturnsInHanded {} Try.checked os 3 .any (Rows.fnJoinFoldIsDottedNonEmptySpec.pre6 enc Try.prog Try.f3 Rows.fnJoinFoldIsDottedNonEmptyRow.domain false) (Rows.fnJoinFoldIsDottedNonEmptySpec.post enc Try.prog Try.f3 false true false false) := by
  refine returnsInHanded_of_change (C := Try.checked) own started (by kernel_rfl) Try.func3
    (ChangeSpec.witness6 (enc := enc) (C := Try.checked) false ⟨#[], #[.slice none 0 0], []⟩ 8 (by kernel_rfl) (by kernel_rfl) (by kernel_rfl) (by kernel_rfl)) ?_
  intro W base args ds gs before hval0 hW hcnd _
  have hval : ∀ (j : Nat) t v, Try.f3.params[j]? = some t → args[j]? = some v → Value.okWide Try.prog W .any base t v := hval0
  have hW' := hW
  obtain ⟨p, q, hA0, hV, rfl, hfz, hnd⟩ := hW
  have hA : DataW.TrodAll enc Try.prog W 0 (fun _ => true) true Try.f3.params.toList args.toList ds p := hA0
  rw [Try.params3] at hA hval
  obtain ⟨v0, vs0, d0, ds0, p0, q0, hargs, rfl, rfl, h0, r0⟩ := trodAll_cons hA
  obtain ⟨rfl, rfl, rfl⟩ := trodAll_nil r0
  obtain rfl : args = #[v0] := by cases args; simp_all
  obtain ⟨rfl, rfl⟩ := trodVars_none hV
  obtain ⟨a0, len, cap, rfl⟩ := okWide_slice Try.underlying22 (hval 0 22 v0 rfl rfl)
  have k0 := h0
  have lt0 : ∀ x ∈ p0, x.block < W.heap.size := by obtain ⟨m, hm⟩ := k0; exact DataW.trod_lt m _ _ _ hm
  obtain ⟨fuel, hf⟩ := h0
  clear hA0 hval0
  have key : Calls Try.prog 3 #[.slice a0 len cap] W fun e W' => e = .returned (.bool true) ∧ Below W.heap.size W W' := by
    rcases open_strings Try.underlying22 Try.underlying9 cells9 hf with ⟨hcs, hx⟩ | ⟨a, len', cap', ss, hcs, _, hl, hm, hz, hx, hcell, hws⟩
    · simp [Value.cells] at hcs
      obtain ⟨rfl, rfl, rfl⟩ := hcs
      exact walk_none none 0 W
    · simp [Value.cells] at hcs
      obtain ⟨rfl, rfl, rfl⟩ := hcs
      simp only [Prod.mk.injEq] at hx
      obtain ⟨_, rfl⟩ := hx
      simp only [if_true] at hz
      by_cases hl0 : len = 0
      · subst hl0
        exact walk_none _ _ W
      · obtain ⟨b, off, spot⟩ := a
        have hspot : spot = none := by simpa [Addr.add] using World.cell?_spot (hcell 0 (by omega))
        subst hspot
        have hbW : b < W.heap.size := lt0 (.cell b off) (MemPlace.mem_row.2 ⟨0, by omega, by simp⟩)
        unfold maxLen at hm
        refine walk_some b off len cap ss W (by omega) (by omega) hbW (fun j hj => ?_) (fun j hj => by rw [← add_plain]; exact hcell j (by omega))
        have hjs : j < ss.length := by omega
        have := hws (ss.getD j ByteArray.empty) (by simp [List.getD, List.getElem?_eq_getElem hjs])
        unfold maxLen at this
        omega
  refine key.mono fun e W' ⟨he, bel⟩ => ?_
  subst he
  exact ⟨_, rfl, _, _, _, [], _, [], hW', trodAll_mk1 (shut_bool Try.underlying4 _), (trodAll_cons_mk (Below.trod laidOut (by kernel_rfl) (of_decide_eq_true (by kernel_rfl)) k0 bel lt0) trodAll_mk0), rfl, bel.frame _, fun h => by cases h⟩

theorem over : Rows.fnJoinFoldIsDottedNonEmptyRow.holds Try.pinned (OpenSpec.ofChange Rows.fnJoinFoldIsDottedNonEmptySpec) :=
  OpenClaim.holds_of_wide 3 Try.f3 rfl rfl rfl rfl rfl rfl rfl ⟨rfl, rfl, rfl, rfl, rfl⟩ rfl rfl rfl rfl rfl (by kernel_rfl) Try.func3 (by kernel_rfl)
    (of_decide_eq_true (by kernel_rfl)) (by unfold Func.isWrapper; first | (rw [if_pos (by decide +kernel)]; kernel_rfl) | (rw [if_neg (by decide +kernel)]; exact ⟨rfl, rfl⟩))
    (fun os started H enc _ => lifted os started H enc)

/-- ████ THE STATEMENT ████ -/
theorem proved : Rows.FnJoinFoldIsDottedNonEmptySaid := over
#print axioms proved
end Go.Proofs.Qxb6625831a.fnJoinFold
