/-
  SEAT b6626208a: the walk of 'zzEncLen', by how many bytes the prefix takes.
-/
import Derived.Test.Qxb6626208aRows
import Derived.Test.Qxb6626208aPlain
import Derived.WalkKit
import Derived.WalkSpells
import Derived.WalkLawsBesides
namespace Go.Proofs.Qxb6626208a
open Go.RowKit

theorem two_new (w : World) (o1 o2 : Obj) : Below w.heap.size w ((w.alloc o1).alloc o2) := ((Below.refl _ _).alloc (Nat.le_refl _) _).alloc (by simp) _

/-- What 'zzEncLen' hands back. -/
def EncEnd (m : Nat) (e : Ending) : Prop := e = .returned (.tuple #[.agg #[.int .u8 (eb m 0 : Nat), .int .u8 (eb m 1 : Nat), .int .u8 (eb m 2 : Nat)], .int .i64 (ek m : Nat)])
theorem encEnd_of {m : Nat} {b0 b1 b2 k : Int} (h0 : b0 = (eb m 0 : Nat)) (h1 : b1 = (eb m 1 : Nat)) (h2 : b2 = (eb m 2 : Nat)) (hk : k = (ek m : Nat)) :
    EncEnd m (.returned (.tuple #[.agg #[.int .u8 b0, .int .u8 b1, .int .u8 b2], .int .i64 k])) := by
  subst h0; subst h1; subst h2; subst hk; rfl

theorem enc_1 (m : Nat) (h : m < 128) (w : World) :
    Calls Try.prog 9 #[.int .i64 m] w fun e w' => EncEnd m e ∧ Below w.heap.size w w' := by
  go_enter Try.func9, Try.ntmps9
  go_wp2
  refine wp_loop_rounds 1 ?_
  rw [rounds_succ]
  go_wp2
  obtain ⟨e0, e1, e2, ek⟩ := enc_one m h
  exact bodyPost_ret (v := .tuple #[.agg #[.int .u8 (m : Int), .int .u8 0, .int .u8 0], .int .i64 1]) (by simp [results, Try.results9, go_sem]) rfl ⟨encEnd_of (by rw [e0]) (by rw [e1]; rfl) (by rw [e2]; rfl) (by rw [ek]; rfl), two_new _ _ _⟩
theorem enc_2 (m : Nat) (h1 : 128 ≤ m) (h : m < 16384) (w : World) :
    Calls Try.prog 9 #[.int .i64 m] w fun e w' => EncEnd m e ∧ Below w.heap.size w w' := by
  go_enter Try.func9, Try.ntmps9
  go_wp2
  refine wp_loop_rounds 2 ?_
  rw [rounds_succ]
  go_wp2
  rw [rounds_succ]
  go_wp2
  obtain ⟨e0, e1, e2, ek⟩ := enc_two m h1 h
  exact bodyPost_ret (v := .tuple #[.agg #[.int .u8 (bits .or .u8 (bits .and .i64 (m : Int) 127 % 256) 128), .int .u8 ((m : Int) / 128), .int .u8 0], .int .i64 2]) (by simp [results, Try.results9, go_sem]) rfl
    ⟨encEnd_of (by rw [e0, mark]; omega) (by rw [e1]; omega) (by rw [e2]; rfl) (by rw [ek]; rfl), two_new _ _ _⟩
theorem enc_3 (m : Nat) (h1 : 16384 ≤ m) (h : m < 2097152) (w : World) :
    Calls Try.prog 9 #[.int .i64 m] w fun e w' => EncEnd m e ∧ Below w.heap.size w w' := by
  go_enter Try.func9, Try.ntmps9
  go_wp2
  refine wp_loop_rounds 3 ?_
  rw [rounds_succ]
  go_wp2
  rw [rounds_succ]
  go_wp2
  rw [rounds_succ]
  go_wp2
  obtain ⟨e0, e1, e2, ek⟩ := enc_three m h1
  exact bodyPost_ret (v := .tuple #[.agg #[.int .u8 (bits .or .u8 (bits .and .i64 (m : Int) 127 % 256) 128), .int .u8 (bits .or .u8 (bits .and .i64 ((m : Int) / 128) 127 % 256) 128), .int .u8 ((m : Int) / 128 / 128)], .int .i64 3]) (by simp [results, Try.results9, go_sem]) rfl
    ⟨encEnd_of (by rw [e0, mark]; omega) (by rw [e1, mark]; omega) (by rw [e2]; omega) (by rw [ek]; rfl), two_new _ _ _⟩
theorem enc_any (m : Nat) (h : m < 2097152) (w : World) :
    Calls Try.prog 9 #[.int .i64 m] w fun e w' => EncEnd m e ∧ Below w.heap.size w w' := by
  by_cases h1 : m < 128
  · exact enc_1 m h1 w
  · by_cases h2 : m < 16384
    · exact enc_2 m (by omega) h2 w
    · exact enc_3 m (by omega) h w
end Go.Proofs.Qxb6626208a
