/-
  SEAT b6625877aD: THE ROW AND THE TIED CARD OF 'FnIdAppendDigitShiftsValue'.
-/
import Derived.Test.Qxb6625877aDoorAppWalk
import Derived.Test.Qxb6625877aDoorLaid
import Derived.Test.Qxb6625877aDoorTie
import Derived.Test.Qxb6625877aDoorCards
import Derived.ShutString
import Derived.ChangeOld
import Derived.Below
import Derived.SevenTiedAt
namespace Go.Proofs.Qxb6625877aDoor.appendDigit
open Go.ChangeShapes Go.WideShapes Go.ChangeAt Go.WideMaps Go.WideElems Go.RowKit

set_option maxRecDepth 100000 in
theorem lifted (os : Os) (started : os.Started) (H : Type) (enc : TypeId × Value → H) :
    ReturnsInHanded {} Tryd.checked os 4 .any (fun w args => (Rows.fnIdAppendDigitShiftsValueSpec.pre enc Tryd.prog Tryd.f4 [] false w args ∧ laidMetH Tryd.prog laid5 w) ∧ sizedMet enc Tryd.prog Tryd.f4 (OpenSpec.ofChange Rows.fnIdAppendDigitShiftsValueSpec) false w args)
      (Rows.fnIdAppendDigitShiftsValueSpec.post enc Tryd.prog Tryd.f4 false true false false) := by
  refine returnsInHanded_of_change_and (C := Tryd.checked) (X := fun w _ => laidMetH Tryd.prog laid5 w) (fun _ _ _ hh h => h.of_heap hh) own started (by kernel_rfl) Tryd.func4
    (ChangeSpec.witness_shaped (enc := enc) (C := Tryd.checked) (os := os) (X := fun w _ => laidMetH Tryd.prog laid5 w) false (World.doorLaid Tryd.prog 62 os) #[.slice none 0 0, .int .i64 0, .int .u8 0] 8 rfl (World.shaped_of_RefB (by kernel_rfl) (by kernel_rfl)) (by kernel_rfl) (by kernel_rfl) (by kernel_rfl) (door_met os _)) ?_
  intro W base args ds gs before hval0 hW _ _ hL _
  have hval : ∀ (j : Nat) t v, Tryd.f4.params[j]? = some t → args[j]? = some v → Value.okWide Tryd.prog W .any base t v := hval0
  have hW' := hW
  obtain ⟨p, q, hA0, hV, rfl, hfz, hnd⟩ := hW
  have hA : DataW.TrodAll enc Tryd.prog W 0 (fun _ => true) true Tryd.f4.params.toList args.toList ds p := hA0
  rw [Tryd.params4] at hA hval
  obtain ⟨v0, vs0, d0, ds0, p0, q0, hargs, rfl, rfl, h0, r0⟩ := trodAll_cons hA
  obtain ⟨v1, vs1, d1, ds1, p1, q1, rfl, rfl, rfl, h1, r1⟩ := trodAll_cons r0
  obtain ⟨v2, vs2, d2, ds2, p2, q2, rfl, rfl, rfl, h2, r2⟩ := trodAll_cons r1
  obtain ⟨rfl, rfl, rfl⟩ := trodAll_nil r2
  obtain rfl : args = #[v0, v1, v2] := by cases args; simp_all
  obtain ⟨rfl, rfl⟩ := trodVars_none hV
  obtain ⟨a0, len, cap, rfl⟩ := okWide_slice Tryd.underlying22 (hval 0 22 v0 rfl rfl)
  have k0 := h0
  have lt0 : ∀ x ∈ p0, x.block < W.heap.size := by obtain ⟨m, hm⟩ := k0; exact DataW.trod_lt m _ _ _ hm
  obtain ⟨fuel, hf⟩ := h0
  obtain ⟨a1, rfl, rfl, rfl, w1⟩ := open_int Tryd.underlying3 (hval 1 3 v1 rfl rfl) h1
  obtain ⟨a2, rfl, rfl, rfl, w2⟩ := open_int Tryd.underlying5 (hval 2 5 v2 rfl rfl) h2
  have hS : Sentinels W := sentinels_of_laid hL
  clear hA0 hval0
  have key : Calls Tryd.prog 4 #[.slice a0 len cap, .int .i64 a1, .int .u8 a2] W fun e W' => e = .returned (.bool true) ∧ Below W.heap.size W W' := by
    rcases open_strings Tryd.underlying22 Tryd.underlying9 cells9 hf with ⟨hcs, hx⟩ | ⟨a, len', cap', ss, hcs, _, hl, hm, hz, hx, hcell, hws⟩
    · simp [Value.cells] at hcs
      obtain ⟨rfl, rfl, rfl⟩ := hcs
      exact app_nil a1 a2 W
    · simp [Value.cells] at hcs
      obtain ⟨rfl, rfl, rfl⟩ := hcs
      simp only [if_true] at hz
      unfold maxLen at hm
      refine app_some a len cap ss a1 a2 W w2 hS (by omega) (by omega) (fun j hj => ?_) (fun j hj => hcell j (by omega))
      have hjs : j < ss.length := by omega
      have := hws (ss.getD j ByteArray.empty) (by simp [List.getD, List.getElem?_eq_getElem hjs])
      unfold maxLen at this
      omega
  refine key.mono fun e W' ⟨he, bel⟩ => ?_
  subst he
  exact ⟨_, rfl, _, _, _, [], _, [], hW', trodAll_mk1 (shut_bool Tryd.underlying4 _), (trodAll_cons_mk (Below.trod laidOut (by kernel_rfl) (of_decide_eq_true (by kernel_rfl)) k0 bel lt0) (trodAll_cons_mk (shut_int Tryd.underlying3 w1) (trodAll_cons_mk (shut_int Tryd.underlying5 w2) trodAll_mk0))), rfl, bel.frame _, fun h => by cases h⟩

/-- THE ROW. -/
theorem over : Rows.fnIdAppendDigitShiftsValueRow.holds Tryd.pinned (OpenSpec.ofChange Rows.fnIdAppendDigitShiftsValueSpec) :=
  OpenClaim.holds_of_wide 4 Tryd.f4 rfl rfl rfl rfl rfl rfl rfl ⟨rfl, rfl, rfl, rfl, rfl⟩ rfl rfl rfl rfl rfl (by kernel_rfl) Tryd.func4 (by kernel_rfl)
    (of_decide_eq_true (by kernel_rfl)) (by unfold Func.isWrapper; first | (rw [if_pos (by decide +kernel)]; kernel_rfl) | (rw [if_neg (by decide +kernel)]; exact ⟨rfl, rfl⟩))
    (fun os started H enc _ => lifted os started H enc)

/-- ████ THE TIED CARD ████ -/
theorem proved : Rows.FnIdAppendDigitShiftsValueCardSaid :=
  Claim7.holds_tied_plain_at .later [] [.data, .data, .data, .sentinel, .sentinel] true (true, "3f5f468e5d4f52caa0c6cfb88027c928828d458a06f037425681b0b8cb17ceaa") true
    over (fun _ h => by cases h) (by kernel_rfl) (fun _ h => by cases h) fnIdAppendDigitShiftsValue_row_tie rfl ⟨rfl, rfl⟩ (by kernel_rfl) rfl
    (fun f fn hf hfn => by
      obtain rfl : f = 4 := Option.some.inj ((show Tryd.prog.funcNamed Rows.fnIdAppendDigitShiftsValueRow.func = some 4 by kernel_rfl).symm.trans hf) |>.symm
      obtain rfl : fn = Tryd.f4 := (Option.some.inj (Tryd.func4.symm.trans hfn)).symm
      exact ⟨by kernel_rfl, fun j t ht => by
        rw [Tryd.params4] at ht
        have hm : t ∈ [22, 3, 5] := by simpa using Array.mem_of_getElem? ht
        have hall : ([22, 3, 5].all fun u => !Tryd.prog.wantsStandIn u) = true := by kernel_rfl
        exact (show Tryd.prog.wantsStandIn t = false by simpa using List.all_eq_true.1 hall t hm)⟩)
    (by kernel_rfl)
#print axioms proved
end Go.Proofs.Qxb6625877aDoor.appendDigit
