/-
  SEAT b6626208a: the walk of 'codec.Next' at a string that opens with a canonical prefix, by how many bytes the prefix takes.
-/
import Derived.Test.Qxb6626208aEnc
import Derived.Deep.QuietTactic
import Derived.BigQuiet
namespace Go.Proofs.Qxb6626208a
open Go.RowKit

theorem ret_two {a b c d : ByteArray} (h1 : a = c) (h2 : b = d) : Ending.returned (.tuple #[.string a, .string b]) = .returned (.tuple #[.string c, .string d]) := by rw [h1, h2]

set_option maxRecDepth 100000 in
theorem next_1 (s : ByteArray) (m : Nat) (hs : s.size ≤ 2097152) (hf : 1 + m ≤ s.size) (p0 : 0 < s.size)
    (e0 : (s[0]'p0).toNat = m) (h0 : m < 128) (w : World) :
    Calls Try.prog 7 #[.string s] w fun e w' => e = .returned (.tuple #[.string (s.extract 1 (1 + m)), .string (s.extract (1 + m) s.size)]) ∧ Below w.heap.size w w' := by
  have o0 : bits .or .i64 0 (m : Int) = (m : Int) := i64_or0 _ (by omega) (by omega)
  have hsz : (s.extract 1 s.size).size = s.size - 1 := by simp
  go_enter Try.func7, Try.ntmps7
  go_wp2
  refine wp_loop_rounds 1 ?_
  rw [rounds_succ]
  go_wp2
  go_quiet (fail)
  go_wp2
  go_ret2
  exact ⟨ret_two (cut_mid s 1 m hf) (cut_end s 1 m hf), below_drewN (Below.refl _ _) _⟩

set_option maxRecDepth 100000 in
theorem next_2 (s : ByteArray) (m c0 c1 a : Nat) (hs : s.size ≤ 2097152) (hf : 2 + m ≤ s.size) (p0 : 0 < s.size) (p1 : 1 < s.size)
    (e0 : (s[0]'p0).toNat = c0) (e1 : (s[1]'p1).toNat = c1) (h0 : 128 ≤ c0) (h1 : c1 < 128)
    (ha : a < 128) (ea : bits .and .u8 (c0 : Int) 127 = (a : Int)) (em : Hid ((a : Int) + (c1 : Int) * (128 : Int) = (m : Int)))
    (w : World) :
    Calls Try.prog 7 #[.string s] w fun e w' => e = .returned (.tuple #[.string (s.extract 2 (2 + m)), .string (s.extract (2 + m) s.size)]) ∧ Below w.heap.size w w' := by
  have o0 : bits .or .i64 0 (a : Int) = (a : Int) := i64_or0 _ (by omega) (by omega)
  have o1 : bits .or .i64 (a : Int) ((c1 : Int) * (128 : Int)) = (m : Int) := by
    rw [i64_or7 _ _ (by omega) (by omega) (by omega) (by omega) (by omega)]; exact em.out
  have hsz : (s.extract 2 s.size).size = s.size - 2 := by simp
  go_enter Try.func7, Try.ntmps7
  go_wp2
  refine wp_loop_rounds 2 ?_
  rw [rounds_succ]
  go_wp2
  rw [rounds_succ]
  go_wp2
  go_quiet (fail)
  go_wp2
  go_ret2
  exact ⟨ret_two (cut_mid s 2 m hf) (cut_end s 2 m hf), below_drewN (Below.refl _ _) _⟩

set_option maxRecDepth 100000 in
theorem next_3 (s : ByteArray) (m c0 c1 c2 a b : Nat) (hs : s.size ≤ 2097152) (hf : 3 + m ≤ s.size) (p0 : 0 < s.size) (p1 : 1 < s.size) (p2 : 2 < s.size)
    (e0 : (s[0]'p0).toNat = c0) (e1 : (s[1]'p1).toNat = c1) (e2 : (s[2]'p2).toNat = c2) (h0 : 128 ≤ c0) (h1 : 128 ≤ c1) (h2 : c2 < 128)
    (ha : a < 128) (hb : b < 128) (ea : bits .and .u8 (c0 : Int) 127 = (a : Int)) (eb : bits .and .u8 (c1 : Int) 127 = (b : Int)) (em : Hid ((a : Int) + (b : Int) * (128 : Int) + (c2 : Int) * (16384 : Int) = (m : Int)))
    (w : World) :
    Calls Try.prog 7 #[.string s] w fun e w' => e = .returned (.tuple #[.string (s.extract 3 (3 + m)), .string (s.extract (3 + m) s.size)]) ∧ Below w.heap.size w w' := by
  have o0 : bits .or .i64 0 (a : Int) = (a : Int) := i64_or0 _ (by omega) (by omega)
  have o1 : bits .or .i64 (a : Int) ((b : Int) * (128 : Int)) = (a : Int) + (b : Int) * (128 : Int) := i64_or7 _ _ (by omega) (by omega) (by omega) (by omega) (by omega)
  have o2 : bits .or .i64 ((a : Int) + (b : Int) * (128 : Int)) ((c2 : Int) * (16384 : Int)) = (m : Int) := by
    rw [i64_or14 _ _ (by omega) (by omega) (by omega) (by omega) (by omega)]; exact em.out
  have hsz : (s.extract 3 s.size).size = s.size - 3 := by simp
  go_enter Try.func7, Try.ntmps7
  go_wp2
  refine wp_loop_rounds 3 ?_
  rw [rounds_succ]
  go_wp2
  rw [rounds_succ]
  go_wp2
  rw [rounds_succ]
  go_wp2
  go_quiet (fail)
  go_wp2
  go_ret2
  exact ⟨ret_two (cut_mid s 3 m hf) (cut_end s 3 m hf), below_drewN (Below.refl _ _) _⟩

/-- 'Next' AT EVERY STRING THAT OPENS WITH THE CANONICAL PREFIX OF m AND HOLDS m BYTES BEHIND IT. -/
theorem next_any (s : ByteArray) (k m : Nat) (hs : s.size ≤ 2097152) (h : Starts s k m) (w : World) :
    Calls Try.prog 7 #[.string s] w fun e w' => e = .returned (.tuple #[.string (s.extract k (k + m)), .string (s.extract (k + m) s.size)]) ∧ Below w.heap.size w w' := by
  obtain ⟨hk, hm, hf, hb⟩ := h
  have mod7 : ∀ c : Nat, bits .and .u8 (((128 + c % 128 : Nat)) : Int) 127 = ((c % 128 : Nat) : Int) := fun c => by
    rw [u8_and127 _ (by omega) (by omega)]; omega
  by_cases h1 : m < 128
  · obtain ⟨e0, _, _, ek1⟩ := enc_one m h1
    rw [ek1] at hk
    subst hk
    have p0 : 0 < s.size := by omega
    have b0 := hb 0 (by omega)
    rw [at_eq s 0 p0, e0] at b0
    exact next_1 s m hs hf p0 b0 h1 w
  · by_cases h2 : m < 16384
    · obtain ⟨e0, e1, _, ek2⟩ := enc_two m (by omega) h2
      rw [ek2] at hk
      subst hk
      have p0 : 0 < s.size := by omega
      have p1 : 1 < s.size := by omega
      have b0 := hb 0 (by omega)
      have b1 := hb 1 (by omega)
      rw [at_eq s 0 p0, e0] at b0
      rw [at_eq s 1 p1, e1] at b1
      exact next_2 s m _ _ (m % 128) hs hf p0 p1 b0 b1 (by omega) (by omega) (by omega) (mod7 m) (show _ = _ by omega) w
    · obtain ⟨e0, e1, e2, ek3⟩ := enc_three m (by omega)
      rw [ek3] at hk
      subst hk
      have p0 : 0 < s.size := by omega
      have p1 : 1 < s.size := by omega
      have p2 : 2 < s.size := by omega
      have b0 := hb 0 (by omega)
      have b1 := hb 1 (by omega)
      have b2 := hb 2 (by omega)
      rw [at_eq s 0 p0, e0] at b0
      rw [at_eq s 1 p1, e1] at b1
      rw [at_eq s 2 p2, e2] at b2
      exact next_3 s m _ _ _ (m % 128) (m / 128 % 128) hs hf p0 p1 p2 b0 b1 b2 (by omega) (by omega) (by omega) (by omega) (by omega) (mod7 m) (mod7 (m / 128)) (show _ = _ by omega) w
end Go.Proofs.Qxb6626208a
