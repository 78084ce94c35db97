/-
  LawS1031BRefusal's walk (seat b1031aF): the three modes of making the reference's bits, by six cases of the bits.
-/
import Derived.Test.YbulkuieFmtBLaws
namespace Go.Proofs.YbulkuieFmt
open Go.RowKit

/-- What the law takes for the reference's bits. -/
def BBof (b m bb : Int) : Prop :=
  ((m % 3 == 1) = true ∧ bits .xor .u64 1970324836974592 (bits .and .u64 b 65535) = bb) ∨
  (((m % 3 == 1) = false ∧ (m % 3 == 2) = true) ∧ bits .or .u64 1970324836974592 (bits .and .u64 b 281474976710655) = bb) ∨
  (((m % 3 == 1) = false ∧ (m % 3 == 2) = false) ∧ bb = b)

theorem BBof.some (b m : Int) (b0 : 0 ≤ b) (b1 : b ≤ 18446744073709551615) : ∃ bb, BBof b m bb ∧ 0 ≤ bb ∧ bb < 18446744073709551616 := by
  obtain ⟨x, rfl⟩ := Int.eq_ofNat_of_zero_le b0
  by_cases h1 : (m % 3 == 1) = true
  · refine ⟨_, .inl ⟨h1, rfl⟩, ?_⟩
    rw [show (65535 : Int) = ((65535 : Nat) : Int) from rfl, u64_and_nat x 65535 (by omega) (by omega), show (1970324836974592 : Int) = ((1970324836974592 : Nat) : Int) from rfl, u64_xor_nat _ _ (by omega) (Nat.lt_of_le_of_lt (Nat.and_le_left) (by omega))]
    have : 1970324836974592 ^^^ (x &&& 65535) < 2 ^ 64 := Nat.xor_lt_two_pow (by omega) (Nat.lt_of_le_of_lt (Nat.and_le_left) (by omega))
    omega
  · have h1' : (m % 3 == 1) = false := by simpa using h1
    by_cases h2 : (m % 3 == 2) = true
    · refine ⟨_, .inr (.inl ⟨⟨h1', h2⟩, rfl⟩), ?_⟩
      rw [show (281474976710655 : Int) = ((281474976710655 : Nat) : Int) from rfl, u64_and_nat x 281474976710655 (by omega) (by omega), show (1970324836974592 : Int) = ((1970324836974592 : Nat) : Int) from rfl, u64_or_nat _ _ (by omega) (Nat.lt_of_le_of_lt (Nat.and_le_left) (by omega))]
      have : 1970324836974592 ||| (x &&& 281474976710655) < 2 ^ 64 := Nat.or_lt_two_pow (by omega) (Nat.lt_of_le_of_lt (Nat.and_le_left) (by omega))
      omega
    · exact ⟨x, .inr (.inr ⟨⟨h1', by simpa using h2⟩, rfl⟩), by omega, by omega⟩

theorem refusal_long (a0 b m i : Int) (n cap : Nat) (ao : Option Addr) (w : World) (hn : 1024 < n) (hn2 : n ≤ 9223372036854775807) :
    Calls Ybaf.prog 4 #[.int .u8 a0, .slice ao n cap, .int .u64 b, .int .u8 m, .int .i64 i] w fun e w' => e = .returned (.bool true) ∧ Below w.heap.size w w' := by
  go_enter Ybaf.func4, Ybaf.ntmps4
  go_wp2
  go_ret
  exact ⟨rfl, Below.refl _ _⟩

set_option maxRecDepth 100000 in
set_option maxHeartbeats 1000000 in
theorem refusal_in (a0 b m : Int) (m0 : 0 ≤ m) (m1 : m ≤ 255) (r n cap : Nat) (hb0 off i : Nat) (ws : Nat → Int) (w : World) (hn : n ≤ 1024) (h0 : 0 ≤ a0) (h1 : a0 ≤ 255) (hr : a0 % 4 = (r : Int)) (hlt : hb0 < w.heap.size) (hc : ∀ j, j < n → w.cell? ⟨hb0, off + j, none⟩ = some (.int .u64 (ws j))) (hi : i < n) (hbb : BBof b m 1970324836974593) :
    Calls Ybaf.prog 4 #[.int .u8 a0, .slice (some ⟨hb0, off, none⟩) n cap, .int .u64 b, .int .u8 m, .int .i64 i] w fun e w' => e = .returned (.bool true) ∧ Below w.heap.size w w' := by
  have hor : bits .or .u64 1970324836974592 1 = 1970324836974593 := by decide
  have HW : Hid (WordsAt w (some ⟨hb0, off, none⟩) n ws) := WordsAt.of hlt hc
  have hci := hc i hi
  clear hc
  rcases hbb with ⟨e1, e2⟩ | ⟨⟨e1, e3⟩, e2⟩ | ⟨⟨e1, e3⟩, rfl⟩
  all_goals
    go_enter Ybaf.func4, Ybaf.ntmps4
    go_wp2_with (first
      | (go_at_call 7; refine (heap_any r n cap _ ws _ (by omega) hn HW.out).mono ?_; rintro e w1 ⟨hb, ab, sb, hdr, rfl, hBH, hbel⟩)
      | (go_at_call 8; refine (get_in (hBH.mono (Nat.le_refl _) (below_one _ _)) i hi).mono ?_; rintro e w2 ⟨rfl, hbel2⟩; have hB := hbel.trans ((below_one_then hbel2).mono hbel.size); have cI := (hB.cell (p := ⟨hb0, off + i, none⟩) hlt).trans hci))
    go_ret
    exact ⟨rfl, hB⟩

set_option maxRecDepth 100000 in
set_option maxHeartbeats 1000000 in
theorem refusal_out (a0 b m : Int) (m0 : 0 ≤ m) (m1 : m ≤ 255) (r n cap : Nat) (i : Int) (ao : Option Addr) (ws : Nat → Int) (w : World) (hn : n ≤ 1024) (h0 : 0 ≤ a0) (h1 : a0 ≤ 255) (hr : a0 % 4 = (r : Int))
    (hw : WordsAt w ao n ws) (hi0 : -9223372036854775808 ≤ i) (hi1 : i ≤ 9223372036854775807) (hi : i < 0 ∨ (n : Int) ≤ i) (a : Addr) (s : ByteArray) (hs : Sent w 0 a s) (hbb : BBof b m 1970324836974593) :
    Calls Ybaf.prog 4 #[.int .u8 a0, .slice ao n cap, .int .u64 b, .int .u8 m, .int .i64 i] w fun e w' => e = .returned (.bool true) ∧ Below w.heap.size w w' := by
  have hor : bits .or .u64 1970324836974592 1 = 1970324836974593 := by decide
  have HI : Hid (i < 0 ∨ (n : Int) ≤ i) := hi
  have HW : Hid (WordsAt w ao n ws) := hw
  clear hw hi
  rcases hbb with ⟨e1, e2⟩ | ⟨⟨e1, e3⟩, e2⟩ | ⟨⟨e1, e3⟩, rfl⟩
  all_goals
    by_cases hneg : i < 0
    all_goals
      first
        | have hpos : decide (0 ≤ i) = false := by simpa using hneg
        | have hge : (n : Int) ≤ i := by have := HI.out; omega
      go_enter Ybaf.func4, Ybaf.ntmps4
      go_wp2_with (first
        | (go_at_call 7; refine (heap_any r n cap _ ws _ (by omega) hn HW.out).mono ?_; rintro e w1 ⟨hb, ab, sb, hdr, rfl, hBH, hbel⟩)
        | (go_at_call 8; refine (get_out (hBH.mono (Nat.le_refl _) (below_one _ _)) i hi0 hi1 HI.out a s ((hs.mono (Nat.le_refl _) hbel).mono (Nat.le_refl _) (below_one _ _))).mono ?_; rintro e w2 ⟨t, x, rfl, hE, hbel2⟩; have hB := hbel.trans ((below_one_then hbel2).mono hbel.size); have cg := (hs.mono (Nat.le_refl _) hB).cg)
        | (go_at_call 9; refine (is_err hE).mono ?_; rintro e w3 ⟨rfl, rfl⟩))
      go_ret
      exact ⟨rfl, hB⟩

set_option maxRecDepth 100000 in
set_option maxHeartbeats 1000000 in
theorem refusal_0 (a0 b m : Int) (m0 : 0 ≤ m) (m1 : m ≤ 255) (r n cap : Nat) (i : Int) (ao : Option Addr) (ws : Nat → Int) (w : World) (hn : n ≤ 1024) (h0 : 0 ≤ a0) (h1 : a0 ≤ 255) (hr : a0 % 4 = (r : Int)) (hw : WordsAt w ao n ws) (a : Addr) (s : ByteArray) (hs : Sent w 1 a s)  (hbb : BBof b m 0) :
    Calls Ybaf.prog 4 #[.int .u8 a0, .slice ao n cap, .int .u64 b, .int .u8 m, .int .i64 i] w fun e w' => e = .returned (.bool true) ∧ Below w.heap.size w w' := by
  have hor : bits .or .u64 1970324836974592 1 = 1970324836974593 := by decide
  have HW : Hid (WordsAt w ao n ws) := hw
  clear hw
  have HN : Hid ((0 : Int) ≠ 1970324836974593) := by show (0 : Int) ≠ 1970324836974593; decide
  rcases hbb with ⟨e1, e2⟩ | ⟨⟨e1, e3⟩, e2⟩ | ⟨⟨e1, e3⟩, rfl⟩
  all_goals
    go_enter Ybaf.func4, Ybaf.ntmps4
    go_wp2_with (first
      | (go_at_call 7; refine (heap_any r n cap _ ws _ (by omega) hn HW.out).mono ?_; rintro e w1 ⟨hb, ab, sb, hdr, rfl, hBH, hbel⟩)
      | (go_at_call 8; refine (get_no (hBH.mono (Nat.le_refl _) (below_one _ _)) 0 (by omega) (by omega) HN.out a ?_ i).mono ?_; (intro W hW; exact refusal_nil _ a s W (((hs.mono (Nat.le_refl _) hbel).mono (Nat.le_refl _) (below_one _ _)).mono (Nat.le_refl _) hW)); rintro e w2 ⟨t, x, rfl, hE, hbel2⟩; have hB := hbel.trans ((below_one_then hbel2).mono hbel.size); have cg := (hs.mono (Nat.le_refl _) hB).cg)
      | (go_at_call 9; refine (is_err hE).mono ?_; rintro e w3 ⟨rfl, rfl⟩))
    go_ret
    exact ⟨rfl, hB⟩

set_option maxRecDepth 100000 in
set_option maxHeartbeats 1000000 in
theorem refusal_7 (a0 b m : Int) (m0 : 0 ≤ m) (m1 : m ≤ 255) (r n cap : Nat) (i : Int) (ao : Option Addr) (bb : Int) (ws : Nat → Int) (w : World) (hn : n ≤ 1024) (h0 : 0 ≤ a0) (h1 : a0 ≤ 255) (hr : a0 % 4 = (r : Int)) (hw : WordsAt w ao n ws) (a : Addr) (s : ByteArray) (hs : Sent w 2 a s) (b0 : 0 ≤ bb) (b1 : bb < 18446744073709551616) (hne : bb ≠ 1970324836974593) (hz : (bb == 0) = false) (h7 : (bb / 281474976710656 != 7) = true) (hbb : BBof b m bb) :
    Calls Ybaf.prog 4 #[.int .u8 a0, .slice ao n cap, .int .u64 b, .int .u8 m, .int .i64 i] w fun e w' => e = .returned (.bool true) ∧ Below w.heap.size w w' := by
  have hor : bits .or .u64 1970324836974592 1 = 1970324836974593 := by decide
  have HW : Hid (WordsAt w ao n ws) := hw
  clear hw
  have hq : (bb == 1970324836974593) = false := by simpa using hne
  have HN : Hid (bb ≠ 1970324836974593) := hne
  clear hne
  rcases hbb with ⟨e1, e2⟩ | ⟨⟨e1, e3⟩, e2⟩ | ⟨⟨e1, e3⟩, rfl⟩
  all_goals
    go_enter Ybaf.func4, Ybaf.ntmps4
    go_wp2_with (first
      | (go_at_call 7; refine (heap_any r n cap _ ws _ (by omega) hn HW.out).mono ?_; rintro e w1 ⟨hb, ab, sb, hdr, rfl, hBH, hbel⟩)
      | (go_at_call 8; refine (get_no (hBH.mono (Nat.le_refl _) (below_one _ _)) bb (by omega) (by omega) HN.out a ?_ i).mono ?_; (intro W hW; exact refusal_heap (((hBH.mono (Nat.le_refl _) (below_one _ _))).mono (Nat.le_refl _) hW) a s (((hs.mono (Nat.le_refl _) hbel).mono (Nat.le_refl _) (below_one _ _)).mono (Nat.le_refl _) hW) bb hz h7); rintro e w2 ⟨t, x, rfl, hE, hbel2⟩; have hB := hbel.trans ((below_one_then hbel2).mono hbel.size); have cg := (hs.mono (Nat.le_refl _) hB).cg)
      | (go_at_call 9; refine (is_err hE).mono ?_; rintro e w3 ⟨rfl, rfl⟩))
    go_ret
    exact ⟨rfl, hB⟩

set_option maxRecDepth 100000 in
set_option maxHeartbeats 1000000 in
theorem refusal_16 (a0 b m : Int) (m0 : 0 ≤ m) (m1 : m ≤ 255) (r n cap : Nat) (i : Int) (ao : Option Addr) (bb : Int) (ws : Nat → Int) (w : World) (hn : n ≤ 1024) (h0 : 0 ≤ a0) (h1 : a0 ≤ 255) (hr : a0 % 4 = (r : Int)) (hw : WordsAt w ao n ws) (a : Addr) (s : ByteArray) (hs : Sent w 3 a s) (b0 : 0 ≤ bb) (b1 : bb < 18446744073709551616) (hne : bb ≠ 1970324836974593) (hz : (bb == 0) = false) (h7 : (bb / 281474976710656 != 7) = false) (h16 : (bb / 65536 != 30064771072) = true) (hbb : BBof b m bb) :
    Calls Ybaf.prog 4 #[.int .u8 a0, .slice ao n cap, .int .u64 b, .int .u8 m, .int .i64 i] w fun e w' => e = .returned (.bool true) ∧ Below w.heap.size w w' := by
  have hor : bits .or .u64 1970324836974592 1 = 1970324836974593 := by decide
  have HW : Hid (WordsAt w ao n ws) := hw
  clear hw
  have hq : (bb == 1970324836974593) = false := by simpa using hne
  have HN : Hid (bb ≠ 1970324836974593) := hne
  clear hne
  rcases hbb with ⟨e1, e2⟩ | ⟨⟨e1, e3⟩, e2⟩ | ⟨⟨e1, e3⟩, rfl⟩
  all_goals
    go_enter Ybaf.func4, Ybaf.ntmps4
    go_wp2_with (first
      | (go_at_call 7; refine (heap_any r n cap _ ws _ (by omega) hn HW.out).mono ?_; rintro e w1 ⟨hb, ab, sb, hdr, rfl, hBH, hbel⟩)
      | (go_at_call 8; refine (get_no (hBH.mono (Nat.le_refl _) (below_one _ _)) bb (by omega) (by omega) HN.out a ?_ i).mono ?_; (intro W hW; exact refusal_stale (((hBH.mono (Nat.le_refl _) (below_one _ _))).mono (Nat.le_refl _) hW) a s (((hs.mono (Nat.le_refl _) hbel).mono (Nat.le_refl _) (below_one _ _)).mono (Nat.le_refl _) hW) bb hz h7 h16); rintro e w2 ⟨t, x, rfl, hE, hbel2⟩; have hB := hbel.trans ((below_one_then hbel2).mono hbel.size); have cg := (hs.mono (Nat.le_refl _) hB).cg)
      | (go_at_call 9; refine (is_err hE).mono ?_; rintro e w3 ⟨rfl, rfl⟩))
    go_ret
    exact ⟨rfl, hB⟩

set_option maxRecDepth 100000 in
set_option maxHeartbeats 1000000 in
theorem refusal_rest (a0 b m : Int) (m0 : 0 ≤ m) (m1 : m ≤ 255) (r n cap : Nat) (i : Int) (ao : Option Addr) (bb : Int) (ws : Nat → Int) (w : World) (hn : n ≤ 1024) (h0 : 0 ≤ a0) (h1 : a0 ≤ 255) (hr : a0 % 4 = (r : Int)) (hw : WordsAt w ao n ws) (a : Addr) (s : ByteArray) (hs : Sent w 2 a s) (b0 : 0 ≤ bb) (b1 : bb < 18446744073709551616) (hne : bb ≠ 1970324836974593) (hz : (bb == 0) = false) (h7 : (bb / 281474976710656 != 7) = false) (h16 : (bb / 65536 != 30064771072) = false) (hbb : BBof b m bb) :
    Calls Ybaf.prog 4 #[.int .u8 a0, .slice ao n cap, .int .u64 b, .int .u8 m, .int .i64 i] w fun e w' => e = .returned (.bool true) ∧ Below w.heap.size w w' := by
  have hor : bits .or .u64 1970324836974592 1 = 1970324836974593 := by decide
  have HW : Hid (WordsAt w ao n ws) := hw
  clear hw
  have hq : (bb == 1970324836974593) = false := by simpa using hne
  have HN : Hid (bb ≠ 1970324836974593) := hne
  clear hne
  rcases hbb with ⟨e1, e2⟩ | ⟨⟨e1, e3⟩, e2⟩ | ⟨⟨e1, e3⟩, rfl⟩
  all_goals
    go_enter Ybaf.func4, Ybaf.ntmps4
    go_wp2_with (first
      | (go_at_call 7; refine (heap_any r n cap _ ws _ (by omega) hn HW.out).mono ?_; rintro e w1 ⟨hb, ab, sb, hdr, rfl, hBH, hbel⟩)
      | (go_at_call 8; refine (get_no (hBH.mono (Nat.le_refl _) (below_one _ _)) bb (by omega) (by omega) HN.out a ?_ i).mono ?_; (intro W hW; exact refusal_none (((hBH.mono (Nat.le_refl _) (below_one _ _))).mono (Nat.le_refl _) hW) a s (((hs.mono (Nat.le_refl _) hbel).mono (Nat.le_refl _) (below_one _ _)).mono (Nat.le_refl _) hW) bb hz h7 h16); rintro e w2 ⟨t, x, rfl, hE, hbel2⟩; have hB := hbel.trans ((below_one_then hbel2).mono hbel.size); have cg := (hs.mono (Nat.le_refl _) hB).cg)
      | (go_at_call 9; refine (is_err hE).mono ?_; rintro e w3 ⟨rfl, rfl⟩))
    go_ret
    exact ⟨rfl, hB⟩
end Go.Proofs.YbulkuieFmt
