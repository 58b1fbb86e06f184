/-
  SEAT b6626238a: THE PROOF OF 'Rows.FnMinLengthSpliceSaid'. The frame is the guide's skeleton's; the walk is mine.
-/
import Derived.Test.Qxb6626238aSplA
import Derived.Test.Qxb6626238aSplB
import Derived.Test.Qxb6626238aSplC
import Derived.Test.Qxb6626238aSplD
import Derived.Test.Qxb6626238aSplE
import Derived.Test.Qxb6626238aSplF
import Derived.WalkKit
import Derived.ProofKit
import Derived.OpenShut
import Derived.ShutString
import Derived.ChangeOld
import Derived.Below
namespace Go.Proofs.Qxb6626238a.fnMinLengthSplice
open Go.ChangeShapes Go.WideShapes Go.ChangeAt Go.RowKit
open Go.ChangeMaps (open_string shut_string)
set_option linter.unusedVariables false

theorem own : ownKnob Try.prog.godebug = none := by kernel_rfl
theorem laidOut : laidOutB Try.prog = true := by kernel_rfl

/-- WHAT THE WALK IS TOLD OF A SLICE OF INTEGERS THAT CAME IN: it is nil; or it leads to a row of 'cap' cells, the numbers 'zs' (the first 'len' are its elements, the rest its spare room), each fitting its kind. -/
def IsRow (k : IntKind) (w : World) (a : Option Addr) (len cap : Nat) (zs : List Int) : Prop :=
  (a = none ∧ len = 0 ∧ cap = 0 ∧ zs = []) ∨
  ∃ x, a = some x ∧ len ≤ cap ∧ cap ≤ maxLen ∧ zs.length = cap ∧ (∀ i, i < zs.length → w.cell? (x.add i) = some (.int k (zs.getD i 0))) ∧ ∀ n ∈ zs, (Lit.int k n).wf = true

/-! ### STEP 1: THE WALK -/
theorem row_len (z : List Int) (len cap : Nat) (hlc : len ≤ cap) (hz : z.length = cap) : (z.take len).length = len := by rw [List.length_take]; omega
theorem row_cell {w : World} {x : Addr} (z : List Int) (len cap : Nat) (hlc : len ≤ cap) (hz : z.length = cap) (hc : ∀ i, i < z.length → w.cell? (x.add i) = some (.int .i32 (z.getD i 0))) :
    ∀ j, j < len → w.cell? (x.add j) = some (.int .i32 ((z.take len).getD j 0)) := fun j hj => by
  rw [hc j (by omega)]
  congr 2
  simp [List.getD, List.getElem?_take_of_lt hj]

theorem walk (a0 : Option Addr) (len0 cap0 : Nat) (z0 : List Int) (a1 : Option Addr) (len1 cap1 : Nat) (z1 : List Int) (a2 : ByteArray) (a3 : Int) (w : World) (w0 : IsRow .i32 w a0 len0 cap0 z0) (w1 : IsRow .i32 w a1 len1 cap1 z1) (w2 : a2.size ≤ maxLen) (w3 : (Lit.int .i64 a3).wf = true) :
    Calls Try.prog 4 #[.slice a0 len0 cap0, .slice a1 len1 cap1, .string a2, .int .i64 a3] w fun e w' => e = .returned (.bool true) ∧ Below w.heap.size w w' := by
  unfold maxLen at w2
  have b0 : len0 ≤ 9223372036854775807 := by
    rcases w0 with ⟨_, rfl, _, _⟩ | ⟨x, _, hlc, hcm, _⟩
    · omega
    · unfold maxLen at hcm; omega
  have b1 : len1 ≤ 9223372036854775807 := by
    rcases w1 with ⟨_, rfl, _, _⟩ | ⟨x, _, hlc, hcm, _⟩
    · omega
    · unfold maxLen at hcm; omega
  by_cases hlong : len0 + len1 + a2.size ≤ 1048576 ∧ len0 ≤ 262144
  · obtain ⟨g1, g2⟩ := hlong
    by_cases hin : len1 ≤ 262144 ∧ 4 * len0 + 4 * len1 + a2.size ≤ 1048576 ∧ 0 ≤ a3 ∧ a3 ≤ len0
    · obtain ⟨_, g3, g4, g5⟩ := hin
      obtain ⟨k, rfl⟩ := Int.eq_ofNat_of_zero_le g4
      rcases w0 with ⟨rfl, rfl, rfl, rfl⟩ | ⟨x, rfl, hlc, _, hz, hc, _⟩
      · obtain rfl : k = 0 := by omega
        rcases w1 with ⟨rfl, rfl, rfl, rfl⟩ | ⟨y, rfl, hlc1, _, hz1, hc1, _⟩
        · exact spl_nil_nil a2 w g3
        · exact spl_nil_row y cap1 len1 (z1.take len1) a2 w (row_len z1 len1 cap1 hlc1 hz1) (row_cell z1 len1 cap1 hlc1 hz1 hc1) g3
      · by_cases hk : k < len0
        · rcases w1 with ⟨rfl, rfl, rfl, rfl⟩ | ⟨y, rfl, hlc1, _, hz1, hc1, _⟩
          · exact spl_mid_nil x cap0 len0 (z0.take len0) k a2 w (row_len z0 len0 cap0 hlc hz) (row_cell z0 len0 cap0 hlc hz hc) hk g3
          · exact spl_mid_row x cap0 len0 (z0.take len0) y cap1 len1 (z1.take len1) k a2 w (row_len z0 len0 cap0 hlc hz) (row_cell z0 len0 cap0 hlc hz hc) (row_len z1 len1 cap1 hlc1 hz1) (row_cell z1 len1 cap1 hlc1 hz1 hc1) hk g3
        · obtain rfl : k = len0 := by omega
          rcases w1 with ⟨rfl, rfl, rfl, rfl⟩ | ⟨y, rfl, hlc1, _, hz1, hc1, _⟩
          · exact spl_end_nil x cap0 k (z0.take k) a2 w (row_len z0 k cap0 hlc hz) (row_cell z0 k cap0 hlc hz hc) g3
          · exact spl_end_row x cap0 k (z0.take k) y cap1 len1 (z1.take len1) a2 w (row_len z0 k cap0 hlc hz) (row_cell z0 k cap0 hlc hz hc) (row_len z1 len1 cap1 hlc1 hz1) (row_cell z1 len1 cap1 hlc1 hz1 hc1) g3
    · rcases w0 with ⟨rfl, rfl, rfl, rfl⟩ | ⟨x, rfl, hlc, _, hz, hc, _⟩
      · rcases w1 with ⟨rfl, rfl, rfl, rfl⟩ | ⟨y, rfl, hlc1, _, hz1, hc1, _⟩
        · exact spl_out_nil_nil a2 a3 w g1 g2 (by omega)
        · exact spl_out_nil_row y cap1 len1 (z1.take len1) a2 a3 w (row_len z1 len1 cap1 hlc1 hz1) (row_cell z1 len1 cap1 hlc1 hz1 hc1) g1 g2 (by omega)
      · rcases w1 with ⟨rfl, rfl, rfl, rfl⟩ | ⟨y, rfl, hlc1, _, hz1, hc1, _⟩
        · exact spl_out_row_nil x cap0 len0 (z0.take len0) a2 a3 w (row_len z0 len0 cap0 hlc hz) (row_cell z0 len0 cap0 hlc hz hc) g1 g2 (by omega)
        · exact spl_out_row_row x cap0 len0 (z0.take len0) y cap1 len1 (z1.take len1) a2 a3 w (row_len z0 len0 cap0 hlc hz) (row_cell z0 len0 cap0 hlc hz hc) (row_len z1 len1 cap1 hlc1 hz1) (row_cell z1 len1 cap1 hlc1 hz1 hc1) g1 g2 (by omega)
  · exact spl_long a0 a1 len0 len1 cap0 cap1 a2 a3 b0 b1 w2 (by omega) w

/-! ### THE ROW's STEP: WRITTEN OUT: LEAVE IT -/
set_option maxRecDepth 100000 in
theorem lifted (os : Os) (started : os.Started) (H : Type) (enc : TypeId × Value → H) :
    ReturnsInHanded {} Try.checked os 4 .any (Rows.fnMinLengthSpliceSpec.pre6 enc Try.prog Try.f4 Rows.fnMinLengthSpliceRow.domain false) (Rows.fnMinLengthSpliceSpec.post enc Try.prog Try.f4 false true false false) := by
  refine returnsInHanded_of_change (C := Try.checked) own started (by kernel_rfl) Try.func4
    (ChangeSpec.witness6 (enc := enc) (C := Try.checked) false ⟨#[], #[.slice none 0 0, .slice none 0 0, .string ByteArray.empty, .int .i64 0], []⟩ 8 (by kernel_rfl) (by kernel_rfl) (by kernel_rfl) (by kernel_rfl)) ?_
  intro W base args ds gs before hval0 hW hcnd _
  have hval : ∀ (j : Nat) t v, Try.f4.params[j]? = some t → args[j]? = some v → Value.okWide Try.prog W .any base t v := hval0
  have hW' := hW
  obtain ⟨p, q, hA0, hV, rfl, hfz, hnd⟩ := hW
  have hA : DataW.TrodAll enc Try.prog W 0 (fun _ => true) true Try.f4.params.toList args.toList ds p := hA0
  rw [Try.params4] at hA hval
  obtain ⟨v0, vs0, d0, ds0, p0, q0, hargs, rfl, rfl, h0, r0⟩ := trodAll_cons hA
  obtain ⟨v1, vs1, d1, ds1, p1, q1, rfl, rfl, rfl, h1, r1⟩ := trodAll_cons r0
  obtain ⟨v2, vs2, d2, ds2, p2, q2, rfl, rfl, rfl, h2, r2⟩ := trodAll_cons r1
  obtain ⟨v3, vs3, d3, ds3, p3, q3, rfl, rfl, rfl, h3, r3⟩ := trodAll_cons r2
  obtain ⟨rfl, rfl, rfl⟩ := trodAll_nil r3
  obtain rfl : args = #[v0, v1, v2, v3] := by cases args; simp_all
  obtain ⟨rfl, rfl⟩ := trodVars_none hV
  obtain ⟨a0, len0, cap0, rfl⟩ := okWide_slice Try.underlying22 (hval 0 22 v0 rfl rfl)
  have k0 := h0
  have lt0 : ∀ x ∈ p0, x.block < W.heap.size := by obtain ⟨m, hm⟩ := k0; exact DataW.trod_lt m _ _ _ hm
  obtain ⟨z0, w0⟩ : ∃ zs, IsRow .i32 W a0 len0 cap0 zs := by
    obtain ⟨fuel, hf⟩ := h0
    rcases open_ints Try.underlying22 Try.underlying21 (by kernel_rfl) hf with ⟨hcs, _⟩ | ⟨x, l, c, zs, hcs, _, hl, hm, hz, _, hcell, hwz⟩
    · simp [Value.cells] at hcs
      obtain ⟨rfl, rfl, rfl⟩ := hcs
      exact ⟨[], .inl ⟨rfl, rfl, rfl, rfl⟩⟩
    · simp [Value.cells] at hcs
      obtain ⟨rfl, rfl, rfl⟩ := hcs
      exact ⟨zs, .inr ⟨_, rfl, hl, hm, by simpa using hz, hcell, hwz⟩⟩
  obtain ⟨a1, len1, cap1, rfl⟩ := okWide_slice Try.underlying22 (hval 1 22 v1 rfl rfl)
  have k1 := h1
  have lt1 : ∀ x ∈ p1, x.block < W.heap.size := by obtain ⟨m, hm⟩ := k1; exact DataW.trod_lt m _ _ _ hm
  obtain ⟨z1, w1⟩ : ∃ zs, IsRow .i32 W a1 len1 cap1 zs := by
    obtain ⟨fuel, hf⟩ := h1
    rcases open_ints Try.underlying22 Try.underlying21 (by kernel_rfl) hf with ⟨hcs, _⟩ | ⟨x, l, c, zs, hcs, _, hl, hm, hz, _, hcell, hwz⟩
    · simp [Value.cells] at hcs
      obtain ⟨rfl, rfl, rfl⟩ := hcs
      exact ⟨[], .inl ⟨rfl, rfl, rfl, rfl⟩⟩
    · simp [Value.cells] at hcs
      obtain ⟨rfl, rfl, rfl⟩ := hcs
      exact ⟨zs, .inr ⟨_, rfl, hl, hm, by simpa using hz, hcell, hwz⟩⟩
  obtain ⟨a2, rfl, rfl, rfl, w2⟩ := open_string Try.underlying9 (hval 2 9 v2 rfl rfl) h2
  obtain ⟨a3, rfl, rfl, rfl, w3⟩ := open_int Try.underlying3 (hval 3 3 v3 rfl rfl) h3
  clear hA0 hval0
  refine (walk a0 len0 cap0 z0 a1 len1 cap1 z1 a2 a3 W w0 w1 w2 w3).mono fun e W' ⟨he, bel⟩ => ?_
  subst he
  exact ⟨_, rfl, _, _, _, [], _, [], hW', trodAll_mk1 (shut_bool Try.underlying4 _), (trodAll_cons_mk (Below.trod laidOut (by kernel_rfl) (of_decide_eq_true (by kernel_rfl)) k0 bel lt0) (trodAll_cons_mk (Below.trod laidOut (by kernel_rfl) (of_decide_eq_true (by kernel_rfl)) k1 bel lt1) (trodAll_cons_mk (shut_string Try.underlying9 w2) (trodAll_cons_mk (shut_int Try.underlying3 w3) trodAll_mk0)))), rfl, bel.frame _, fun h => by cases h⟩

theorem over : Rows.fnMinLengthSpliceRow.holds Try.pinned (OpenSpec.ofChange Rows.fnMinLengthSpliceSpec) :=
  OpenClaim.holds_of_wide 4 Try.f4 rfl rfl rfl rfl rfl rfl rfl ⟨rfl, rfl, rfl, rfl, rfl⟩ rfl rfl rfl rfl rfl (by kernel_rfl) Try.func4 (by kernel_rfl)
    (of_decide_eq_true (by kernel_rfl)) (by unfold Func.isWrapper; first | (rw [if_pos (by decide +kernel)]; kernel_rfl) | (rw [if_neg (by decide +kernel)]; exact ⟨rfl, rfl⟩))
    (fun os started H enc _ => lifted os started H enc)

/-- ████ THE STATEMENT ████ -/
theorem proved : Rows.FnMinLengthSpliceSaid := over
#print axioms proved
end Go.Proofs.Qxb6626238a.fnMinLengthSplice
