/-
  Rows of words as bits; has, set and unset on them; the block's length from its header (seat b1031aF).
-/
import Derived.Test.YbulkuieFmtSmall
import Derived.Test.YbulkuieFmtCPlain
import Derived.Deep.OwnRows
namespace Go.Proofs.YbulkuieFmt
open Go.RowKit C

/-- Row b holds n words, word i being A i. -/
def NatRow (w : World) (b n : Nat) (A : Nat → Nat) : Prop := w.rowIs b 24 n (fun i => .int .u64 ((A i : Nat) : Int))
theorem NatRow.cell {w : World} {b n : Nat} {A : Nat → Nat} (h : NatRow w b n A) {i : Nat} (hi : i < n) : w.cell? ⟨b, i, none⟩ = some (.int .u64 ((A i : Nat) : Int)) := World.rowIs.cell h hi
theorem NatRow.set {w : World} {b n : Nat} {A : Nat → Nat} (h : NatRow w b n A) (i v : Nat) : NatRow (w.setCell ⟨b, i, none⟩ (.int .u64 ((v : Nat) : Int))) b n (upd A i v) :=
  (World.rowIs.set h i _).congr fun j _ => by unfold upd; split <;> rfl
theorem NatRow.of_block {w w' : World} {b n : Nat} {A : Nat → Nat} (h : NatRow w b n A) (e : w'.heap[b]? = w.heap[b]?) : NatRow w' b n A := World.rowIs.of_block h e

/-- Row sb holds L words, whose bits are C. -/
def BitsAt (w : World) (sb L : Nat) (C : Nat → Bool) : Prop :=
  ∃ x : Nat → Nat, NatRow w sb L x ∧ (∀ q, q < L → x q < 18446744073709551616) ∧ ∀ p, p < 64 * L → (x (p / 64)).testBit (p % 64) = C p
theorem BitsAt.of_block {w w' : World} {sb L : Nat} {C : Nat → Bool} (h : BitsAt w sb L C) (e : w'.heap[sb]? = w.heap[sb]?) : BitsAt w' sb L C := by
  obtain ⟨x, h1, h2⟩ := h
  exact ⟨x, h1.of_block e, h2⟩
theorem BitsAt.congr {w : World} {sb L : Nat} {C D : Nat → Bool} (h : BitsAt w sb L C) (e : ∀ p, p < 64 * L → C p = D p) : BitsAt w sb L D := by
  obtain ⟨x, h1, h2, h3⟩ := h
  exact ⟨x, h1, h2, fun p hp => by rw [h3 p hp, e p hp]⟩
theorem BitsAt.lt {w : World} {sb L : Nat} {C : Nat → Bool} (h : BitsAt w sb L C) : sb < w.heap.size := by
  obtain ⟨x, h1, _⟩ := h
  exact World.rowIs.lt h1

theorem has_bits {w : World} {sb L k : Nat} {C : Nat → Bool} (h : BitsAt w sb L C) (hk : k < 64 * L) (hL : L ≤ 1000) :
    Calls Ybaf.prog 31 #[.slice (some ⟨sb, 0, none⟩) L L, .int .i64 k] w fun e w' => e = .returned (.bool (C k)) ∧ w' = w := by
  obtain ⟨x, h1, h2, h3⟩ := h
  have hb := h2 (k / 64) (by omega)
  refine (has_any sb L L k _ w (by omega) (by omega) (by omega) (h1.cell (by omega)) (by omega) (by omega)).mono ?_
  rintro e w' ⟨rfl, hw⟩
  refine ⟨?_, hw⟩
  rw [Int.toNat_natCast, h3 k hk]

theorem or_bit (x j : Nat) (hx : x < 18446744073709551616) (hj : j < 64) : bits .or .u64 (x : Int) (IntKind.u64.wrap ((2 : Int) ^ j)) = ((x ||| 2 ^ j : Nat) : Int) := by
  have hp : 2 ^ j < 2 ^ 64 := Nat.pow_lt_pow_right (by decide) hj
  have e : (2 : Int) ^ j = ((2 ^ j : Nat) : Int) := by simp
  rw [e]
  obtain ⟨P, hP⟩ : ∃ P : Nat, P = 2 ^ j := ⟨_, rfl⟩
  rw [← hP] at hp ⊢
  rw [IntKind.wrap_u64, show (P : Int) % 18446744073709551616 = (P : Int) by omega, u64_or_nat _ _ hx (by omega)]
theorem andNot_bit (x j : Nat) (hx : x < 18446744073709551616) (hj : j < 64) : bits .andNot .u64 (x : Int) (IntKind.u64.wrap ((2 : Int) ^ j)) = ((x &&& (18446744073709551615 - 2 ^ j) : Nat) : Int) := by
  have hp : 2 ^ j < 2 ^ 64 := Nat.pow_lt_pow_right (by decide) hj
  have e : (2 : Int) ^ j = ((2 ^ j : Nat) : Int) := by simp
  rw [e]
  obtain ⟨P, hP⟩ : ∃ P : Nat, P = 2 ^ j := ⟨_, rfl⟩
  rw [← hP] at hp ⊢
  rw [IntKind.wrap_u64, show (P : Int) % 18446744073709551616 = (P : Int) by omega, u64_andNot_nat _ _ hx (by omega)]
theorem testBit_clear (x j i : Nat) (hj : j < 64) (hi : i < 64) : (x &&& (18446744073709551615 - 2 ^ j)).testBit i = (x.testBit i && !decide (j = i)) := by
  have hp : 2 ^ j < 2 ^ 64 := Nat.pow_lt_pow_right (by decide) hj
  rw [Nat.testBit_and, show 18446744073709551615 - 2 ^ j = 2 ^ 64 - (2 ^ j + 1) by omega, Nat.testBit_two_pow_sub_succ hp, Nat.testBit_two_pow]
  simp [hi]

theorem set_bits {w : World} {sb L k : Nat} {C : Nat → Bool} (h : BitsAt w sb L C) (hk : k < 64 * L) (hL : L ≤ 1000) :
    Calls Ybaf.prog 12 #[.slice (some ⟨sb, 0, none⟩) L L, .int .i64 k] w fun e w' => e = .returned (.tuple #[]) ∧ BitsAt w' sb L (upd C k true) ∧ ∃ v, w' = w.setCell ⟨sb, k / 64, none⟩ v := by
  obtain ⟨x, h1, h2, h3⟩ := h
  have hb := h2 (k / 64) (by omega)
  have hc := h1.cell (i := k / 64) (by omega)
  have hf := World.rowIs.frozen h1 (k / 64)
  have ho := or_bit (x (k / 64)) (k % 64) hb (by omega)
  obtain ⟨y, hy⟩ : ∃ y, y = x (k / 64) ||| 2 ^ (k % 64) := ⟨_, rfl⟩
  rw [← hy] at ho
  have HY : Hid (y = x (k / 64) ||| 2 ^ (k % 64)) := hy
  have H3 : Hid (∀ p, p < 64 * L → (x (p / 64)).testBit (p % 64) = C p) := h3
  have H1 : Hid (NatRow w sb L x) := h1
  have H2 : Hid (∀ q, q < L → x q < 18446744073709551616) := h2
  clear hy h3 h1 h2 hb
  go_enter Ybaf.func12, Ybaf.ntmps12
  go_wp2
  go_end0
  refine ⟨rfl, ⟨upd x (k / 64) y, H1.out.set (k / 64) y, fun q hq => ?_, fun p hp => ?_⟩, _, rfl⟩
  · unfold upd
    split
    · rw [HY.out]
      exact Nat.or_lt_two_pow (n := 64) (H2.out _ (by omega)) (Nat.pow_lt_pow_right (by decide) (by omega))
    · exact H2.out q hq
  · by_cases hq : p / 64 = k / 64
    · rw [hq, upd_same, HY.out, Nat.testBit_or, Nat.testBit_two_pow, ← hq, H3.out p hp]
      unfold upd
      by_cases hpk : p = k
      · rw [if_pos hpk]; subst hpk; simp
      · rw [if_neg hpk]
        have : ¬ k % 64 = p % 64 := by omega
        simp [this]
    · rw [upd_other _ _ _ _ hq, H3.out p hp, upd_other _ _ _ _ (fun h => hq (by rw [h]))]

theorem unset_bits {w : World} {sb L k : Nat} {C : Nat → Bool} (h : BitsAt w sb L C) (hk : k < 64 * L) (hL : L ≤ 1000) :
    Calls Ybaf.prog 37 #[.slice (some ⟨sb, 0, none⟩) L L, .int .i64 k] w fun e w' => e = .returned (.tuple #[]) ∧ BitsAt w' sb L (upd C k false) ∧ ∃ v, w' = w.setCell ⟨sb, k / 64, none⟩ v := by
  obtain ⟨x, h1, h2, h3⟩ := h
  have hb := h2 (k / 64) (by omega)
  have hc := h1.cell (i := k / 64) (by omega)
  have hf := World.rowIs.frozen h1 (k / 64)
  have ho := andNot_bit (x (k / 64)) (k % 64) hb (by omega)
  obtain ⟨y, hy⟩ : ∃ y, y = x (k / 64) &&& (18446744073709551615 - 2 ^ (k % 64)) := ⟨_, rfl⟩
  rw [← hy] at ho
  have HY : Hid (y = x (k / 64) &&& (18446744073709551615 - 2 ^ (k % 64))) := hy
  have H3 : Hid (∀ p, p < 64 * L → (x (p / 64)).testBit (p % 64) = C p) := h3
  have H1 : Hid (NatRow w sb L x) := h1
  have H2 : Hid (∀ q, q < L → x q < 18446744073709551616) := h2
  clear hy h3 h1 h2 hb
  go_enter Ybaf.func37, Ybaf.ntmps37
  go_wp2
  go_end0
  refine ⟨rfl, ⟨upd x (k / 64) y, H1.out.set (k / 64) y, fun q hq => ?_, fun p hp => ?_⟩, _, rfl⟩
  · unfold upd
    split
    · rw [HY.out]
      exact Nat.lt_of_le_of_lt Nat.and_le_left (H2.out _ (by omega))
    · exact H2.out q hq
  · by_cases hq : p / 64 = k / 64
    · rw [hq, upd_same, HY.out, testBit_clear _ _ _ (by omega) (by omega), ← hq, H3.out p hp]
      unfold upd
      by_cases hpk : p = k
      · rw [if_pos hpk]; subst hpk; simp
      · rw [if_neg hpk]
        have : ¬ k % 64 = p % 64 := by omega
        simp [this]
    · rw [upd_other _ _ _ _ hq, H3.out p hp, upd_other _ _ _ _ (fun h => hq (by rw [h]))]
end Go.Proofs.YbulkuieFmt
