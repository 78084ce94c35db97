/-
  The plain law of LawS1031AFields: a stamp out of identity and epoch, an address joined to it, each field read back. No Go text in sight.
-/
import Derived.Laws.BitsAllLaws
namespace Go.Proofs.Ybulkuie.Plain
open Go

theorem pow_split (d : Nat) (h : d ≤ 48) : 2 ^ (48 - d) * 2 ^ d = 281474976710656 := by
  rw [← Nat.pow_add, Nat.sub_add_cancel h]
theorem pow_lt (k : Nat) (h : k ≤ 47) : 2 ^ k < 281474976710656 := by
  have : 2 ^ k ≤ 2 ^ 47 := Nat.pow_le_pow_right (by decide) h
  omega
theorem mask_eq (k : Nat) (h : k ≤ 47) : IntKind.u64.wrap (IntKind.u64.wrap ((2 : Int) ^ k) - 1) = ((2 ^ k - 1 : Nat) : Int) := by
  have h1 := pow_lt k h
  have h0 : 0 < 2 ^ k := Nat.two_pow_pos k
  have e : (2 : Int) ^ k = ((2 ^ k : Nat) : Int) := by simp
  rw [e, IntKind.wrap_u64, IntKind.wrap_u64]
  omega
theorem and_mask (k x : Nat) (h : k ≤ 47) (hx : x < 18446744073709551616) :
    bits .and .u64 (x : Int) (IntKind.u64.wrap (IntKind.u64.wrap ((2 : Int) ^ k) - 1)) = ((x % 2 ^ k : Nat) : Int) := by
  have h1 := pow_lt k h
  rw [mask_eq k h, u64_and_nat x _ hx (by omega), Nat.and_two_pow_sub_one_eq_mod]

theorem fields (a0 a1 a2 : Int) (d : Nat) (b00 : 0 ≤ a0) (b01 : a0 ≤ 65535) (b10 : 0 ≤ a1) (b11 : a1 ≤ 18446744073709551615) (b20 : 0 ≤ a2) (b21 : a2 ≤ 18446744073709551615)
    (hd1 : 1 ≤ d) (hd2 : d ≤ 47) :
    ∃ E A S R : Int, bits .and .u64 a1 (IntKind.u64.wrap (IntKind.u64.wrap ((2 : Int) ^ (48 - d)) - 1)) = E ∧
      bits .and .u64 a2 (IntKind.u64.wrap (IntKind.u64.wrap ((2 : Int) ^ d) - 1)) = A ∧
      bits .or .u64 (a0 * 281474976710656) (IntKind.u64.wrap (E * 2 ^ d)) = S ∧
      bits .or .u64 S A = R ∧ R / 281474976710656 = a0 ∧
      bits .and .u64 (R / 2 ^ d) (IntKind.u64.wrap (IntKind.u64.wrap ((2 : Int) ^ (48 - d)) - 1)) = E ∧
      bits .and .u64 R (IntKind.u64.wrap (IntKind.u64.wrap ((2 : Int) ^ d) - 1)) = A ∧
      0 ≤ R ∧ R ≤ 18446744073709551615 ∧ 0 ≤ A ∧ A ≤ 18446744073709551615 := by
  obtain ⟨a0, rfl⟩ := Int.eq_ofNat_of_zero_le b00
  obtain ⟨a1, rfl⟩ := Int.eq_ofNat_of_zero_le b10
  obtain ⟨a2, rfl⟩ := Int.eq_ofNat_of_zero_le b20
  have hps := pow_split d (by omega)
  have hDlt := pow_lt d hd2
  have hFlt := pow_lt (48 - d) (by omega)
  have hD0 : 0 < 2 ^ d := Nat.two_pow_pos d
  have hF0 : 0 < 2 ^ (48 - d) := Nat.two_pow_pos _
  have cD : (2 : Int) ^ d = ((2 ^ d : Nat) : Int) := by simp
  rw [and_mask (48 - d) a1 (by omega) (by omega), and_mask d a2 hd2 (by omega)]
  obtain ⟨E, hE⟩ : ∃ E, E = a1 % 2 ^ (48 - d) := ⟨_, rfl⟩
  obtain ⟨A, hA⟩ : ∃ A, A = a2 % 2 ^ d := ⟨_, rfl⟩
  have hElt : E < 2 ^ (48 - d) := by rw [hE]; exact Nat.mod_lt _ hF0
  have hAlt : A < 2 ^ d := by rw [hA]; exact Nat.mod_lt _ hD0
  rw [← hE, ← hA]
  have hED : E * 2 ^ d + 2 ^ d ≤ 281474976710656 := by
    have : (E + 1) * 2 ^ d ≤ 2 ^ (48 - d) * 2 ^ d := Nat.mul_le_mul_right _ hElt
    rw [hps, Nat.add_mul, Nat.one_mul] at this
    exact this
  have w1 : IntKind.u64.wrap ((E : Int) * 2 ^ d) = ((E * 2 ^ d : Nat) : Int) := by
    rw [cD, IntKind.wrap_u64]
    have : ((E : Int) * ((2 ^ d : Nat) : Int)) = ((E * 2 ^ d : Nat) : Int) := by simp
    rw [this]; omega
  have hS : bits .or .u64 ((a0 : Int) * 281474976710656) (IntKind.u64.wrap ((E : Int) * 2 ^ d)) = ((a0 * 281474976710656 + E * 2 ^ d : Nat) : Int) := by
    rw [w1]
    have : ((a0 : Int) * 281474976710656) = ((a0 * 281474976710656 : Nat) : Int) := by simp
    rw [this, u64_or_nat _ _ (by omega) (by omega), nat_join 48 _ _ (by omega) (by omega)]
  have hR : bits .or .u64 ((a0 * 281474976710656 + E * 2 ^ d : Nat) : Int) (A : Int) = ((a0 * 281474976710656 + E * 2 ^ d + A : Nat) : Int) := by
    rw [u64_or_nat _ _ (by omega) (by omega), nat_join d _ _ ?_ hAlt]
    rw [← hps, ← Nat.mul_assoc, ← Nat.add_mul]
    exact Nat.mul_mod_left _ _
  have hdiv : (a0 * 281474976710656 + E * 2 ^ d + A) / 2 ^ d = a0 * 2 ^ (48 - d) + E := by
    rw [← hps, ← Nat.mul_assoc, ← Nat.add_mul, Nat.add_comm, Nat.add_mul_div_right _ _ hD0, Nat.div_eq_of_lt hAlt, Nat.zero_add]
  have hmodE : (a0 * 2 ^ (48 - d) + E) % 2 ^ (48 - d) = E := by
    rw [Nat.add_comm, Nat.add_mul_mod_self_right, Nat.mod_eq_of_lt hElt]
  have hmodA : (a0 * 281474976710656 + E * 2 ^ d + A) % 2 ^ d = A := by
    rw [← hps, ← Nat.mul_assoc, ← Nat.add_mul, Nat.add_comm, Nat.add_mul_mod_self_right, Nat.mod_eq_of_lt hAlt]
  refine ⟨(E : Int), (A : Int), _, _, rfl, rfl, hS, hR, ?_, ?_, ?_, by omega, by omega, by omega, by omega⟩
  · omega
  · rw [cD, ← Int.natCast_ediv, hdiv, and_mask (48 - d) _ (by omega) ?_, hmodE]
    have : a0 * 2 ^ (48 - d) + E ≤ a0 * 281474976710656 + E * 2 ^ d + A := by rw [← hdiv]; exact Nat.div_le_self _ _
    omega
  · rw [and_mask d _ hd2 (by omega), hmodA]
end Go.Proofs.Ybulkuie.Plain
