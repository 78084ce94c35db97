/-
  Plain laws on 64-bit words for the seat b1031aF. No Go text in sight, the model's 'bits' alone.
-/
import Derived.Laws.BitsAllLaws
namespace Go.Proofs.YbulkuieFmt.Plain
open Go

/-- The test 'word shifted right by j, its lowest bit' is the word's bit j. -/
theorem bit_test (x : Int) (j : Nat) (h0 : 0 ≤ x) (h1 : x < 18446744073709551616) : (bits .and .u64 (x / 2 ^ j) 1 != 0) = x.toNat.testBit j := by
  obtain ⟨x, rfl⟩ := Int.eq_ofNat_of_zero_le h0
  have e : (x : Int) / 2 ^ j = ((x / 2 ^ j : Nat) : Int) := by simp
  have hlt : x / 2 ^ j < 18446744073709551616 := Nat.lt_of_le_of_lt (Nat.div_le_self _ _) (by omega)
  rw [e, show (1 : Int) = ((1 : Nat) : Int) from rfl, u64_and_nat _ 1 hlt (by omega), nat_mask1, Int.toNat_natCast, Nat.testBit_eq_decide_div_mod_eq]
  rcases Nat.mod_two_eq_zero_or_one (x / 2 ^ j) with h | h <;> rw [h] <;> rfl
end Go.Proofs.YbulkuieFmt.Plain
