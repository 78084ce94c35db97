/-
  LawS1046CEntry (seat b1046a): the table's zero, the entry as a number, no Go.
-/
import Derived.Test.YbulkuqgChecked
import Derived.WalkKit
import Derived.WalkSmall
import Derived.Below
import Derived.OwnWalk
import Derived.Deep.OwnRows
import Derived.Deep.LoopGhost
import Derived.BigQuiet
import Derived.Laws.BitsAllLaws
namespace Go.Proofs.Ybulkuqg
open Go.RowKit

/-- The cells of a zero table. -/
def zc35 : Array Value := Array.replicate 1024 (.int .u32 0) ++ #[.int .u32 0, .slice none 0 0]
theorem zc35_size : zc35.size = 1026 := by simp [zc35]
theorem zc35_ne : ¬ zc35 = #[] := by intro h; have := zc35_size; rw [h] at this; simp at this
theorem zero35 (w : World) : (zeroValue 35).run Yba.prog w = .ok (.agg zc35) w := by kernel_rfl

theorem or_add (a j d : Nat) (hd : d < 2 ^ j) (ha : 2 ^ j * a < 4294967296) (hd2 : d < 4294967296) : bits .or .u32 ((2 ^ j * a : Nat) : Int) (d : Int) = ((2 ^ j * a + d : Nat) : Int) := by
  rw [u32_or_nat _ _ ha hd2]
  exact congrArg _ (Nat.two_pow_add_eq_or_of_lt hd a).symm

/-- The entry, by its fields. -/
theorem entry_ors (V K X L : Nat) (hV : V < 64) (hK : K < 5) (hX : X < 8) (hL : L < 16) : ∃ e1 e2 e3 : Nat, bits .or .u32 ((V : Int) * 65536) ((K : Int) * 256) = (e1 : Int) ∧ bits .or .u32 (e1 : Int) ((X : Int) * 16) = (e2 : Int) ∧ bits .or .u32 (e2 : Int) (L : Int) = (e3 : Int) ∧ e3 = V * 65536 + K * 256 + X * 16 + L := by
  refine ⟨V * 65536 + K * 256, V * 65536 + K * 256 + X * 16, V * 65536 + K * 256 + X * 16 + L, ?_, ?_, ?_, rfl⟩
  · have h := or_add V 16 (K * 256) (by omega) (by omega) (by omega)
    rw [show ((2 ^ 16 * V : Nat) : Int) = (V : Int) * 65536 by omega, show ((K * 256 : Nat) : Int) = (K : Int) * 256 by omega] at h
    rw [h]; omega
  · have h := or_add (V * 256 + K) 8 (X * 16) (by omega) (by omega) (by omega)
    rw [show ((2 ^ 8 * (V * 256 + K) : Nat) : Int) = ((V * 65536 + K * 256 : Nat) : Int) by omega, show ((X * 16 : Nat) : Int) = (X : Int) * 16 by omega] at h
    rw [h]; omega
  · have h := or_add (V * 4096 + K * 16 + X) 4 L (by omega) (by omega) (by omega)
    rw [show ((2 ^ 4 * (V * 4096 + K * 16 + X) : Nat) : Int) = ((V * 65536 + K * 256 + X * 16 : Nat) : Int) by omega] at h
    rw [h]; omega

theorem and_ones (x j : Nat) (hx : x < 4294967296) (hj : 2 ^ j ≤ 4294967296) : bits .and .u32 (x : Int) ((2 ^ j - 1 : Nat) : Int) = ((x % 2 ^ j : Nat) : Int) := by
  have := Nat.two_pow_pos j
  rw [u32_and_nat _ _ hx (by omega), Nat.and_two_pow_sub_one_eq_mod]

/-- The table at tb: its mask, its sub. -/
def Tab (w : World) (tb m I : Nat) (e s : Value) : Prop :=
  ∃ f : Nat → Value, w.rowIs tb 35 1026 f ∧ f 1024 = .int .u32 (m : Int) ∧ f 1025 = s ∧ f I = e

theorem made_at (n i : Nat) (z : Value) (h : i < n) : (madeCells #[z] n)[i]? = some z := by simp [madeCells, h, Nat.mod_one]
theorem info23 : (Yba.prog.info? 23).map (fun i => (i.zero, i.size, i.bytes)) = some (some (.int .u32 0), 1, 4) := by kernel_rfl
end Go.Proofs.Ybulkuqg
