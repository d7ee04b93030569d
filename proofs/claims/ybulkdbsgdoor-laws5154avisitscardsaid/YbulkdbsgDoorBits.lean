/-
  BITS: the lowest bit of a word.
-/
import Derived.Test.YbulkdbsgDoorMem
namespace Go.Proofs.YbulkdbsgDoor

theorem odd_bit (m j : Nat) : (2 * m + 1).testBit j = if j = 0 then true else m.testBit (j - 1) := by
  cases j with
  | zero => simp [Nat.testBit_zero]
  | succ j => simp only [Nat.testBit_succ, Nat.succ_ne_zero, if_false, Nat.add_sub_cancel]; congr 1; omega
theorem even_bit (m j : Nat) : (2 * m).testBit j = if j = 0 then false else m.testBit (j - 1) := by
  cases j with
  | zero => simp [Nat.testBit_zero]
  | succ j => simp only [Nat.testBit_succ, Nat.succ_ne_zero, if_false, Nat.add_sub_cancel]; congr 1; omega
theorem shift_bit (p a j : Nat) : (2 ^ p * a).testBit j = if j < p then false else a.testBit (j - p) := by
  have := Nat.testBit_two_pow_mul_add a (b := 0) (i := p) (Nat.two_pow_pos p) j
  simpa using this

/-- w &^ its lowest bit. -/
theorem low_off (p m : Nat) : (2 ^ p * (2 * m + 1)) &&& (2 ^ p * (2 * m + 1) - 1) = 2 ^ p * (2 * m) := by
  have e : 2 ^ p * (2 * m + 1) - 1 = 2 ^ p * (2 * m) + (2 ^ p - 1) := by
    have := Nat.two_pow_pos p
    rw [Nat.mul_add, Nat.mul_one]
    omega
  rw [e]
  apply Nat.eq_of_testBit_eq
  intro j
  rw [Nat.testBit_and, shift_bit, shift_bit, Nat.testBit_two_pow_mul_add _ (by have := Nat.two_pow_pos p; omega), odd_bit, even_bit]
  by_cases h : j < p
  · simp [h]
  · simp only [h, if_false]
    by_cases h0 : j - p = 0 <;> simp [h0]

/-- w & -w. -/
theorem low_bit (p m : Nat) (hp : p < 64) (h : 2 ^ p * (2 * m + 1) < 2 ^ 64) : (2 ^ p * (2 * m + 1)) &&& (2 ^ 64 - 2 ^ p * (2 * m + 1)) = 2 ^ p := by
  have h64 : 2 ^ 64 = 2 ^ p * (2 * 2 ^ (63 - p)) := by
    rw [← Nat.pow_succ', ← Nat.pow_add]
    congr 1
    omega
  have hm : m < 2 ^ (63 - p) := by
    rw [h64] at h
    have := Nat.lt_of_mul_lt_mul_left h
    omega
  have e : 2 ^ 64 - 2 ^ p * (2 * m + 1) = 2 ^ p * (2 * (2 ^ (63 - p) - (m + 1)) + 1) := by
    rw [h64, ← Nat.mul_sub]
    congr 1
    omega
  rw [e]
  apply Nat.eq_of_testBit_eq
  intro j
  rw [Nat.testBit_and, shift_bit, shift_bit, odd_bit, odd_bit, Nat.testBit_two_pow]
  by_cases hj : j < p
  · simp [hj]; omega
  · simp only [hj, if_false]
    by_cases h0 : j - p = 0
    · simp [h0]; omega
    · simp only [h0, if_false]
      rw [Nat.testBit_two_pow_sub_succ hm]
      have : ¬ p = j := by omega
      simp [this]
      intro h1 h2
      exact h1
end Go.Proofs.YbulkdbsgDoor
