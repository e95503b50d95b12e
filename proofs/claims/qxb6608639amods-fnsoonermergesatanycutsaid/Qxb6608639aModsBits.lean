/-
  Facts on bits for times without a monotonic clock reading.
-/
import Derived.Laws.BitsLemmas
import Derived.Laws.Bits64
namespace Go.Proofs.Qxb6608639aMods
open Go

theorem wraps_u64 (n : Int) (h0 : 0 ≤ n) (h1 : n < 2 ^ 63) : IntKind.u64.wrap n = n := by rw [IntKind.wrap_u64]; omega

theorem and_nsec (n : Int) (h0 : 0 ≤ n) (h1 : n < 1000000000) : bits .and .u64 n 1073741823 = n := by
  have h := bits_mask .u64 63 (by decide) wraps_u64 30 (by decide) n h0 (by omega)
  have e : ((2 : Int) ^ 30 - 1) = 1073741823 := by decide
  rw [e] at h
  rw [h]
  omega

theorem and_mono (n : Int) (h0 : 0 ≤ n) (h1 : n < 1000000000) : bits .and .u64 n 9223372036854775808 = 0 := by
  obtain ⟨a, rfl⟩ := Int.eq_ofNat_of_zero_le h0
  have ha : a < 2 ^ 63 := by omega
  have h := (bits_nat .u64 64 (by decide) (fun n h0 h1 => by rw [IntKind.wrap_u64]; omega) a (2 ^ 63) (by omega) (by decide)).1
  have e : (((2 ^ 63 : Nat)) : Int) = 9223372036854775808 := by decide
  rw [e] at h
  rw [h]
  have : a &&& 2 ^ 63 = 0 := by
    refine Nat.eq_of_testBit_eq fun i => ?_
    rw [Nat.testBit_and, Nat.testBit_two_pow, Nat.zero_testBit]
    by_cases e : 63 = i
    · subst e
      rw [Nat.testBit_lt_two_pow ha]
      rfl
    · simp [e]
  rw [this]
  rfl

theorem and_both (n m : Int) (h0 : 0 ≤ n) (h1 : n < 1000000000) (g0 : 0 ≤ m) (g1 : m < 1000000000) : 0 ≤ bits .and .u64 n m ∧ bits .and .u64 n m < 1000000000 := by
  obtain ⟨a, rfl⟩ := Int.eq_ofNat_of_zero_le h0
  obtain ⟨b, rfl⟩ := Int.eq_ofNat_of_zero_le g0
  rw [(bits_nat .u64 63 (by decide) wraps_u64 a b (by omega) (by omega)).1]
  have : a &&& b ≤ a := Nat.and_le_left
  omega

theorem andNot_zero : bits .andNot .u64 0 1073741823 = 0 := by decide +kernel

theorem or_zero (n : Int) (h0 : 0 ≤ n) (h1 : n < 1000000000) : bits .or .u64 0 n = n := by
  obtain ⟨a, rfl⟩ := Int.eq_ofNat_of_zero_le h0
  have h := (bits_nat .u64 63 (by decide) wraps_u64 0 a (by decide) (by omega)).2
  simpa using h
end Go.Proofs.Qxb6608639aMods
