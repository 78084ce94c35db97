/-
  The small functions of the C laws (seat b1031aF): blockLen, zzs1031csize, math/bits.OnesCount64, count, reserved.
-/
import Derived.Test.YbulkuieFmtCBits
import Derived.Test.YbulkuieFmtCOnes
import Derived.BigQuiet
import Derived.Deep.QuietTactic
import Derived.Deep.LoopGhost
import Derived.Laws.Bits128
namespace Go.Proofs.YbulkuieFmt
open Go.RowKit C

theorem ret_int {k : IntKind} {a b : Int} (h : a = b) : Ending.returned (.int k a) = .returned (.int k b) := by rw [h]

theorem and63 (x : Nat) (hx : x < 18446744073709551616) : bits .and .u64 (x : Int) 9223372036854775808 = ((x / 9223372036854775808 % 2 * 9223372036854775808 : Nat) : Int) := by
  rw [show (9223372036854775808 : Int) = ((9223372036854775808 : Nat) : Int) from rfl, u64_and_nat _ _ hx (by omega)]
  exact congrArg _ (nat_bit 63 x)
theorem and62 (x : Nat) (hx : x < 18446744073709551616) : bits .and .u64 (x : Int) 4611686018427387904 = ((x / 4611686018427387904 % 2 * 4611686018427387904 : Nat) : Int) := by
  rw [show (4611686018427387904 : Int) = ((4611686018427387904 : Nat) : Int) from rfl, u64_and_nat _ _ hx (by omega)]
  exact congrArg _ (nat_bit 62 x)
theorem andNot63 (x : Nat) (hx : x < 18446744073709551616) : bits .andNot .u64 (x : Int) 9223372036854775808 = ((x % 9223372036854775808 : Nat) : Int) := by
  rw [show (9223372036854775808 : Int) = ((9223372036854775808 : Nat) : Int) from rfl, u64_andNot_nat _ _ hx (by omega)]
  exact congrArg _ (Nat.and_two_pow_sub_one_eq_mod x 63)
theorem and31 (x : Nat) (hx : x < 18446744073709551616) : bits .and .u64 (x : Int) 2147483647 = ((x % 2147483648 : Nat) : Int) := by
  rw [show (2147483647 : Int) = ((2147483647 : Nat) : Int) from rfl, u64_and_nat _ _ hx (by omega)]
  exact congrArg _ (Nat.and_two_pow_sub_one_eq_mod x 31)
theorem and32 (x : Nat) (hx : x < 18446744073709551616) : bits .and .u64 (x : Int) 4294967295 = ((x % 4294967296 : Nat) : Int) := by
  rw [show (4294967295 : Int) = ((4294967295 : Nat) : Int) from rfl, u64_and_nat _ _ hx (by omega)]
  exact congrArg _ (Nat.and_two_pow_sub_one_eq_mod x 32)

/-- The tests on a header. -/
theorem hdr_free (b : Blk) : (bits .and .u64 ((hdr b : Nat) : Int) 9223372036854775808 != 0) = b.free := by
  rw [and63 _ (hdr_lt b)]
  have := size_le b
  cases hf : b.free with
  | true =>
    have : hdr b / 9223372036854775808 % 2 = 1 := by unfold hdr; rw [if_pos hf]; omega
    rw [this]; rfl
  | false =>
    have : hdr b / 9223372036854775808 % 2 = 0 := by unfold hdr; rw [if_neg (by simp [hf])]; omega
    rw [this]; rfl
theorem hdr_forward (b : Blk) : (bits .and .u64 ((hdr b : Nat) : Int) 4611686018427387904 != 0) = false := by
  rw [and62 _ (hdr_lt b)]
  have := size_le b
  have : hdr b / 4611686018427387904 % 2 = 0 := by unfold hdr; split <;> omega
  rw [this]; rfl
theorem hdr_len (b : Blk) (hf : b.free = true) : bits .andNot .u64 ((hdr b : Nat) : Int) 9223372036854775808 = ((size b : Nat) : Int) := by
  have := size_le b
  rw [andNot63 _ (hdr_lt b)]
  unfold hdr
  rw [if_pos hf]
  omega
theorem hdr_refs (b : Blk) (hf : b.free = false) : bits .and .u64 (((hdr b : Nat) : Int) / 2147483648) 2147483647 = ((b.refs % 4 : Nat) : Int) := by
  have h1 := hdr_lt b
  rw [show ((hdr b : Nat) : Int) / 2147483648 = ((hdr b / 2147483648 : Nat) : Int) by omega, and31 _ (by omega)]
  unfold hdr
  rw [if_neg (by simp [hf])]
  omega
theorem hdr_words (b : Blk) (hf : b.free = false) : bits .and .u64 ((hdr b : Nat) : Int) 2147483647 = ((b.words % 4 : Nat) : Int) := by
  rw [and31 _ (hdr_lt b)]
  unfold hdr
  rw [if_neg (by simp [hf])]
  omega

theorem blockLen_any (b : Blk) (w : World) : Calls Ybaf.prog 30 #[.int .u64 ((hdr b : Nat) : Int)] w fun e w' => e = .returned (.int .i64 ((size b : Nat) : Int)) ∧ w' = w := by
  have h1 := hdr_free b
  have hs := size_le b
  have hg := size_ge b
  cases hf : b.free with
  | true =>
    have h2 := hdr_len b hf
    rw [hf] at h1
    generalize hdr b = h at *
    go_enter Ybaf.func30, Ybaf.ntmps30
    go_wp2
    go_ret
    exact ⟨rfl, rfl⟩
  | false =>
    have h2 := hdr_refs b hf
    have h3 := hdr_words b hf
    have h4 : size b = max 2 (1 + b.refs % 4 + b.words % 4) := by unfold size; rw [if_neg (by simp [hf])]
    rw [hf] at h1
    obtain ⟨x, hx⟩ : ∃ x, x = b.refs % 4 := ⟨_, rfl⟩
    obtain ⟨y, hy⟩ : ∃ y, y = b.words % 4 := ⟨_, rfl⟩
    have hx4 : x ≤ 3 := by omega
    have hy4 : y ≤ 3 := by omega
    rw [← hx, ← hy] at h4
    rw [← hx] at h2
    rw [← hy] at h3
    generalize hdr b = h at *
    generalize size b = z at *
    clear hx hy
    have H4 : Hid (z = max 2 (1 + x + y)) := h4
    clear h4 hs hg
    go_enter Ybaf.func30, Ybaf.ntmps30
    go_wp2
    all_goals go_ret
    all_goals exact ⟨ret_int (by have := H4.out; omega), rfl⟩

/-- One block's cells, as a struct value. -/
def blkVal (b : Blk) : Value := .agg #[.bool b.free, .int .u8 ((b.refs : Nat) : Int), .int .u8 ((b.words : Nat) : Int), .int .u8 ((b.target : Nat) : Int)]

theorem size_any (b : Blk) (h1 : b.refs ≤ 255) (h2 : b.words ≤ 255) (w : World) : Calls Ybaf.prog 19 #[.agg #[.bool b.free, .int .u8 ((b.refs : Nat) : Int), .int .u8 ((b.words : Nat) : Int), .int .u8 ((b.target : Nat) : Int)]] w fun e w' => e = .returned (.int .i64 ((size b : Nat) : Int)) ∧ ∃ c, w' = w.alloc (.cells c 69) := by
  cases hf : b.free with
  | true =>
    have h4 : size b = 2 + b.words % 8 := by unfold size; rw [if_pos hf]
    generalize size b = z at *
    have H4 : Hid (z = 2 + b.words % 8) := h4
    clear h4
    go_enter Ybaf.func19, Ybaf.ntmps19
    go_wp2
    go_ret
    exact ⟨ret_int (by have := H4.out; omega), _, rfl⟩
  | false =>
    have h4 : size b = max 2 (1 + b.refs % 4 + b.words % 4) := by unfold size; rw [if_neg (by simp [hf])]
    generalize size b = z at *
    have H4 : Hid (z = max 2 (1 + b.refs % 4 + b.words % 4)) := h4
    clear h4
    go_enter Ybaf.func19, Ybaf.ntmps19
    go_wp2
    all_goals go_ret
    all_goals exact ⟨ret_int (by have := H4.out; omega), _, rfl⟩
theorem andc (X M : Int) (x m : Nat) (hX : X = x) (hM : M = m) (hx : x < 18446744073709551616) (hm : m < 18446744073709551616) : ∃ a : Nat, bits .and .u64 X M = (a : Int) ∧ a = x &&& m ∧ a ≤ m := by
  subst hX hM
  exact ⟨x &&& m, u64_and_nat x m hx hm, rfl, Nat.and_le_right⟩
theorem and127 (z : Nat) : bits .and .i64 (z : Int) 127 = ((z % 128 : Nat) : Int) := by
  rw [i64_and127]; omega
set_option maxRecDepth 100000 in
theorem ones_any (x : Nat) (hx : x < 18446744073709551616) (w : World) : Calls Ybaf.prog 32 #[.int .u64 (x : Int)] w fun e w' => e = .returned (.int .i64 ((cnt (fun j => x.testBit j) 64 : Nat) : Int)) ∧ w' = w := by
  obtain ⟨a1, e1, d1, b1⟩ := andc ((x : Int) / 2) 6148914691236517205 (x / 2) 6148914691236517205 (by omega) rfl (by omega) (by decide)
  obtain ⟨a2, e2, d2, b2⟩ := andc (x : Int) 6148914691236517205 x 6148914691236517205 rfl rfl hx (by decide)
  obtain ⟨a3, e3, d3, b3⟩ := andc (((a1 : Int) + (a2 : Int)) / 4) 3689348814741910323 ((a1 + a2) / 4) 3689348814741910323 (by omega) rfl (by omega) (by decide)
  obtain ⟨a4, e4, d4, b4⟩ := andc ((a1 : Int) + (a2 : Int)) 3689348814741910323 (a1 + a2) 3689348814741910323 (by omega) rfl (by omega) (by decide)
  obtain ⟨y, e5, d5, b5⟩ := andc (((a3 : Int) + (a4 : Int)) / 16 + ((a3 : Int) + (a4 : Int))) 1085102592571150095 ((a3 + a4) / 16 + (a3 + a4)) 1085102592571150095 (by omega) rfl (by omega) (by decide)
  obtain ⟨z1, hz1⟩ : ∃ z, z = y + y / 256 := ⟨_, rfl⟩
  obtain ⟨z2, hz2⟩ : ∃ z, z = z1 + z1 / 65536 := ⟨_, rfl⟩
  obtain ⟨z3, hz3⟩ : ∃ z, z = z2 + z2 / 4294967296 := ⟨_, rfl⟩
  have hy : y = bw pop 8 x := by
    rw [d5, d3, d4, d1, d2, step1, step2, steps]
  have hO := ones x y z1 z2 z3 hy hz1 hz2 hz3
  have f1 : (y : Int) + (y : Int) / 256 = (z1 : Int) := by omega
  have f2 : (z1 : Int) + (z1 : Int) / 65536 = (z2 : Int) := by omega
  have f3 : (z2 : Int) + (z2 : Int) / 4294967296 = (z3 : Int) := by omega
  have hb : z3 < 9223372036854775808 := by omega
  have f4 := and127 z3
  rw [hO.1] at f4
  have hb1 : z1 < 9223372036854775808 := by omega
  have hb2 : z2 < 9223372036854775808 := by omega
  have hb0 : y < 9223372036854775808 := by omega
  clear d1 d2 d3 d4 d5 hz1 hz2 hz3 hy hO
  go_enter Ybaf.func32, Ybaf.ntmps32
  go_wp2
  go_ret
  exact ⟨rfl, rfl⟩

/-- count on a row of bits. -/
theorem count_any {w : World} {sb L : Nat} {C : Nat → Bool} (h : BitsAt w sb L C) (hL : L ≤ 1000) :
    Calls Ybaf.prog 21 #[.slice (some ⟨sb, 0, none⟩) L L] w fun e w' => e = .returned (.int .i64 ((cnt C (64 * L) : Nat) : Int)) ∧ w' = w := by
  obtain ⟨x, h1, h2, h3⟩ := h
  have H1 : Hid (NatRow w sb L x) := h1
  have H2 : Hid (∀ q, q < L → x q < 18446744073709551616) := h2
  have hstep : ∀ q, q < L → cnt C (64 * (q + 1)) = cnt C (64 * q) + cnt (fun j => (x q).testBit j) 64 := fun q hq => by
    rw [show 64 * (q + 1) = 64 * q + 64 by omega, cnt_add]
    congr 1
    exact cnt_congr fun p hp => by
      rw [← h3 (64 * q + p) (by omega), show (64 * q + p) / 64 = q by omega, show (64 * q + p) % 64 = p by omega]
  have H3 : Hid (∀ q, q < L → cnt C (64 * (q + 1)) = cnt C (64 * q) + cnt (fun j => (x q).testBit j) 64) := hstep
  clear h1 h2 h3 hstep
  go_enter Ybaf.func21, Ybaf.ntmps21
  go_wp2_with fail
  go_loop [3, 8] (fun n i => ∃ q : Nat, q ≤ L ∧ i = .int .i64 q ∧ n = .int .i64 ((cnt C (64 * q) : Nat) : Int)) (fun _ i => L - (intOf i).toNat)
  case atStart => exact ⟨0, Nat.zero_le _, rfl, rfl⟩
  case round =>
    obtain ⟨q, hq, rfl, rfl⟩ := hrel
    have hb := cnt_le C (64 * q)
    generalize hc : cnt C (64 * q) = c at *
    have HC : Hid (cnt C (64 * q) = c) := hc
    clear hc
    by_cases hlt : q < L
    · have hcell := H1.out.cell hlt
      obtain ⟨m, hm, H3', O⟩ : ∃ m : Nat, m ≤ 64 ∧ Hid (cnt C (64 * (q + 1)) = c + m) ∧ ∀ W, Calls Ybaf.prog 32 #[.int .u64 ((x q : Nat) : Int)] W fun e w' => e = .returned (.int .i64 (m : Int)) ∧ w' = W :=
        ⟨_, cnt_le (fun j => (x q).testBit j) 64, (by show _ = _; rw [H3.out q hlt, HC.out]), fun W => ones_any (x q) (H2.out q hlt) W⟩
      generalize x q = v at hcell O
      go_wp2_with (go_at_call 32; refine (O _).mono ?_; rintro e w' ⟨rfl, rfl⟩)
      go_round
      case rel => exact ⟨q + 1, by omega, by go_num, by rw [H3'.out]; go_num⟩
      case measure => simp [intOf]; omega
    · have hqL : q = L := by omega
      subst hqL
      go_wp2_with fail
      go_ret
      exact ⟨ret_int (by rw [HC.out]), rfl⟩

/-- reserved, where the capacity is the limit and a hundred words. -/
theorem reserved_any (hb lim : Nat) (w : World) (hl : lim ≤ 100000) (c7 : w.cell? ⟨hb, 7, none⟩ = some (.int .i64 (lim : Int))) (c87 : w.cell? ⟨hb, 87, none⟩ = some (.int .i64 (((lim : Int) + 100) * 8))) :
    Calls Ybaf.prog 23 #[.pointer (some ⟨hb, 0, none⟩)] w fun e w' => e = .returned (.int .i64 100) ∧ ∃ n, w' = w.drewN n := by
  go_enter Ybaf.func23, Ybaf.ntmps23
  go_wp2
  go_quiet (fail)
  go_wp2
  go_ret
  exact ⟨ret_int (by omega), _, rfl⟩
end Go.Proofs.YbulkuieFmt
