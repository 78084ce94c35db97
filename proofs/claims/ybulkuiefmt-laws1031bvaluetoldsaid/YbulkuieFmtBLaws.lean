/-
  zzs1031bheap at every slice of words; LawS1031BValue's walk (seat b1031aF).
-/
import Derived.Test.YbulkuieFmtBMake
import Derived.RowKit3
namespace Go.Proofs.YbulkuieFmt
open Go.RowKit

theorem hdr_facts (r n : Nat) (hr : r ≤ 3) (hn : n ≤ 1024) : ∃ hdr : Int, bits .or .u64 ((r : Int) * 2147483648) (n : Int) = hdr ∧ bits .and .u64 (hdr / 2147483648) 2147483647 = (r : Int) ∧ bits .and .u64 hdr 2147483647 = (n : Int) := by
  refine ⟨((r * 2147483648 + n : Nat) : Int), ?_, ?_, ?_⟩
  · rw [show (r : Int) * 2147483648 = ((r * 2147483648 : Nat) : Int) by simp, u64_or_nat _ _ (by omega) (by omega), nat_join 31 _ _ (by omega) (by omega)]
  · rw [show ((r * 2147483648 + n : Nat) : Int) / 2147483648 = ((r : Nat) : Int) by omega, show (2147483647 : Int) = ((2147483647 : Nat) : Int) from rfl, u64_and_nat _ _ (by omega) (by omega)]
    have := Nat.and_two_pow_sub_one_eq_mod r 31
    rw [show (2147483647 : Nat) = 2 ^ 31 - 1 by decide, this]
    omega
  · rw [show (2147483647 : Int) = ((2147483647 : Nat) : Int) from rfl, u64_and_nat _ _ (by omega) (by omega)]
    have := Nat.and_two_pow_sub_one_eq_mod (r * 2147483648 + n) 31
    rw [show (2147483647 : Nat) = 2 ^ 31 - 1 by decide, this]
    omega

/-- The slice of words: empty, or its cells lie at ad. -/
def WordsAt (w : World) (ao : Option Addr) (n : Nat) (ws : Nat → Int) : Prop :=
  n = 0 ∨ ∃ ad, ao = some ad ∧ ad.block < w.heap.size ∧ ∀ j, j < n → w.cell? (ad.add j) = some (.int .u64 (ws j))

theorem heap_any (r n cap : Nat) (ao : Option Addr) (ws : Nat → Int) (w : World) (hr : r ≤ 3) (hn : n ≤ 1024) (hw : WordsAt w ao n ws) :
    Calls Ybaf.prog 7 #[.int .i64 r, .slice ao n cap] w fun e w' => ∃ (hb ab sb : Nat) (hdr : Int), e = .returned (.tuple #[.pointer (some ⟨hb, 0, none⟩), .agg #[.int .u64 1970324836974593]]) ∧ BH w' hb ab sb r n hdr ws ∧ Below w.heap.size w w' := by
  obtain ⟨hdr, h1, h2, h3⟩ := hdr_facts r n hr hn
  rcases Nat.eq_zero_or_pos n with rfl | hpos
  · refine (heap_zero r cap (1 + r) ((1 + r + 63) / 64) ao hdr ws w hr (by omega) (by omega) (by omega) h1 h2 h3).mono ?_
    rintro e w' ⟨hb, ab, sb, h⟩
    exact ⟨hb, ab, sb, hdr, h⟩
  · rcases hw with h0 | ⟨ad, rfl, hlt, hc⟩
    · omega
    · refine (heap_pos r n cap (1 + r + n) ((1 + r + n + 63) / 64) ad hdr ws w hr hn (by omega) (by omega) hpos (by omega) h1 hc hlt h2 h3).mono ?_
      rintro e w' ⟨hb, ab, sb, h⟩
      exact ⟨hb, ab, sb, hdr, h⟩

theorem value_long (a0 i : Int) (n cap : Nat) (ao : Option Addr) (w : World) (hn : 1024 < n) (hn2 : n ≤ 9223372036854775807) :
    Calls Ybaf.prog 3 #[.int .u8 a0, .slice ao n cap, .int .i64 i] w fun e w' => e = .returned (.bool true) ∧ Below w.heap.size w w' := by
  go_enter Ybaf.func3, Ybaf.ntmps3
  go_wp2
  go_ret
  exact ⟨rfl, Below.refl _ _⟩

theorem WordsAt.of {w : World} {b off n : Nat} {ws : Nat → Int} (hlt : b < w.heap.size) (hc : ∀ j, j < n → w.cell? ⟨b, off + j, none⟩ = some (.int .u64 (ws j))) : WordsAt w (some ⟨b, off, none⟩) n ws :=
  .inr ⟨_, rfl, hlt, fun j hj => by
    have h := hc j hj
    unfold Addr.add
    split
    · rename_i h0; subst h0; exact h
    · exact h⟩

set_option maxRecDepth 100000 in
theorem value_in (a0 : Int) (r i n cap b off : Nat) (ws : Nat → Int) (w : World) (hn : n ≤ 1024) (h0 : 0 ≤ a0) (h1 : a0 ≤ 255) (hr : a0 % 4 = (r : Int)) (hlt : b < w.heap.size) (hc : ∀ j, j < n → w.cell? ⟨b, off + j, none⟩ = some (.int .u64 (ws j))) (hi : i < n) :
    Calls Ybaf.prog 3 #[.int .u8 a0, .slice (some ⟨b, off, none⟩) n cap, .int .i64 i] w fun e w' => e = .returned (.bool true) ∧ Below w.heap.size w w' := by
  have HW : Hid (WordsAt w (some ⟨b, off, none⟩) n ws) := WordsAt.of hlt hc
  have hci := hc i hi
  clear hc
  go_enter Ybaf.func3, Ybaf.ntmps3
  go_wp2_with (first
    | (go_at_call 7; refine (heap_any r n cap _ ws _ (by omega) hn HW.out).mono ?_; rintro e w1 ⟨hb, ab, sb, hdr, rfl, hBH, hbel⟩)
    | (go_at_call 8; refine (get_in (hBH.mono (Nat.le_refl _) (below_one _ _)) i hi).mono ?_; rintro e w2 ⟨rfl, hbel2⟩; have hB := hbel.trans ((below_one_then hbel2).mono hbel.size); have cI := (hB.cell (p := ⟨b, off + i, none⟩) hlt).trans hci))
  go_ret
  exact ⟨rfl, hB⟩

set_option maxRecDepth 100000 in
theorem value_out (a0 i : Int) (r n cap : Nat) (ao : Option Addr) (ws : Nat → Int) (w : World) (hn : n ≤ 1024) (h0 : 0 ≤ a0) (h1 : a0 ≤ 255) (hr : a0 % 4 = (r : Int)) (hw : WordsAt w ao n ws) (hi0 : -9223372036854775808 ≤ i) (hi1 : i ≤ 9223372036854775807) (hi : i < 0 ∨ (n : Int) ≤ i)
    (a : Addr) (s : ByteArray) (hs : Sent w 0 a s) :
    Calls Ybaf.prog 3 #[.int .u8 a0, .slice ao n cap, .int .i64 i] w fun e w' => e = .returned (.bool true) ∧ Below w.heap.size w w' := by
  have HW : Hid (WordsAt w ao n ws) := hw
  have HI : Hid (i < 0 ∨ (n : Int) ≤ i) := hi
  have hd : ∀ _ : Unit, True := fun _ => trivial
  clear hw hi hd
  by_cases hneg : i < 0
  all_goals
    first
      | have hpos : decide (0 ≤ i) = false := by simpa using hneg
      | have hge : (n : Int) ≤ i := by have := HI.out; omega
    go_enter Ybaf.func3, Ybaf.ntmps3
    go_wp2_with (first
      | (go_at_call 7; refine (heap_any r n cap _ ws _ (by omega) hn HW.out).mono ?_; rintro e w1 ⟨hb, ab, sb, hdr, rfl, hBH, hbel⟩)
      | (go_at_call 8; refine (get_out (hBH.mono (Nat.le_refl _) (below_one _ _)) i hi0 hi1 HI.out a s ((hs.mono (Nat.le_refl _) hbel).mono (Nat.le_refl _) (below_one _ _))).mono ?_; rintro e w2 ⟨t, x, rfl, hE, hbel2⟩; have hB := hbel.trans ((below_one_then hbel2).mono hbel.size); have cg := (hs.mono (Nat.le_refl _) hB).cg)
      | (go_at_call 9; refine (is_err hE).mono ?_; rintro e w3 ⟨rfl, rfl⟩))
    go_ret
    exact ⟨rfl, hB⟩
end Go.Proofs.YbulkuieFmt
