/-
  Plain laws on 64-bit words for the seat b1031a: no Go text in sight, the model's 'bits' alone.
-/
import Derived.Laws.BitsAllLaws
namespace Go.Proofs.Ybulkuie.Plain
open Go

theorem or_and_right (a b : Nat) : (a ||| b) &&& b = b := by
  apply Nat.eq_of_testBit_eq; intro i
  simp only [Nat.testBit_and, Nat.testBit_or]
  cases a.testBit i <;> cases b.testBit i <;> rfl
theorem or_and_left (a b : Nat) : (a ||| b) &&& a = a := by
  apply Nat.eq_of_testBit_eq; intro i
  simp only [Nat.testBit_and, Nat.testBit_or]
  cases a.testBit i <;> cases b.testBit i <;> rfl
theorem and_not_self (x : Nat) (h : x < 2 ^ 64) : x &&& (18446744073709551615 - x) = 0 := by
  apply Nat.eq_of_testBit_eq; intro i
  have e : 18446744073709551615 - x = 2 ^ 64 - (x + 1) := by omega
  rw [e, Nat.testBit_and, Nat.testBit_two_pow_sub_succ h]
  cases x.testBit i <;> simp

theorem or_lt (a b : Nat) (ha : a < 18446744073709551616) (hb : b < 18446744073709551616) : a ||| b < 18446744073709551616 :=
  Nat.or_lt_two_pow (n := 64) ha hb

theorem exact_addr (s a : Int) (hs0 : 0 ≤ s) (hs : s < 18446744073709551616) (ha0 : 0 ≤ a) (ha : a < 18446744073709551616) :
    bits .and .u64 (bits .or .u64 s a) a = a := by
  obtain ⟨s, rfl⟩ := Int.eq_ofNat_of_zero_le hs0
  obtain ⟨a, rfl⟩ := Int.eq_ofNat_of_zero_le ha0
  rw [u64_or_nat s a (by omega) (by omega), u64_and_nat _ a (or_lt s a (by omega) (by omega)) (by omega), or_and_right]
theorem exact_stamp (s a : Int) (hs0 : 0 ≤ s) (hs : s < 18446744073709551616) (ha0 : 0 ≤ a) (ha : a < 18446744073709551616) :
    bits .and .u64 (bits .or .u64 s a) s = s := by
  obtain ⟨s, rfl⟩ := Int.eq_ofNat_of_zero_le hs0
  obtain ⟨a, rfl⟩ := Int.eq_ofNat_of_zero_le ha0
  rw [u64_or_nat s a (by omega) (by omega), u64_and_nat _ s (or_lt s a (by omega) (by omega)) (by omega), or_and_left]
theorem exact_rest (s a : Int) (hs0 : 0 ≤ s) (hs : s < 18446744073709551616) (ha0 : 0 ≤ a) (ha : a < 18446744073709551616) :
    bits .andNot .u64 (bits .or .u64 s a) (bits .or .u64 s a) = 0 := by
  obtain ⟨s, rfl⟩ := Int.eq_ofNat_of_zero_le hs0
  obtain ⟨a, rfl⟩ := Int.eq_ofNat_of_zero_le ha0
  have hl := or_lt s a (by omega) (by omega)
  rw [u64_or_nat s a (by omega) (by omega), u64_andNot_nat _ _ hl hl, and_not_self _ hl]
  rfl
theorem exact_nonzero (s a : Int) (hs0 : 0 ≤ s) (hs : s < 18446744073709551616) (ha0 : 0 ≤ a) (ha : a < 18446744073709551616) (hne : a ≠ 0) :
    bits .or .u64 s a ≠ 0 := by
  intro h
  have e := exact_addr s a hs0 hs ha0 ha
  rw [h] at e
  obtain ⟨a, rfl⟩ := Int.eq_ofNat_of_zero_le ha0
  rw [show (0 : Int) = ((0 : Nat) : Int) from rfl, u64_and_nat 0 a (by omega) (by omega)] at e
  simp at e
  omega
end Go.Proofs.Ybulkuie.Plain
