/-
  The plain side of math/bits.OnesCount64: the sums by pairs, nibbles and bytes count the bits. No Go text in sight.
-/
import Derived.Test.YbulkuieFmtCPlain
namespace Go.Proofs.YbulkuieFmt.C

theorem and_split (lo a m b : Nat) (hl : lo < 256) (hm : m < 256) : (lo + 256 * a) &&& (m + 256 * b) = (lo &&& m) + 256 * (a &&& b) := by
  apply Nat.eq_of_testBit_eq
  intro i
  have h3 : lo &&& m < 2 ^ 8 := Nat.lt_of_le_of_lt Nat.and_le_left hl
  rw [Nat.testBit_and, show lo + 256 * a = 2 ^ 8 * a + lo by omega, show m + 256 * b = 2 ^ 8 * b + m by omega, show (lo &&& m) + 256 * (a &&& b) = 2 ^ 8 * (a &&& b) + (lo &&& m) by omega,
    Nat.testBit_two_pow_mul_add _ hl, Nat.testBit_two_pow_mul_add _ hm, Nat.testBit_two_pow_mul_add _ h3]
  split
  · rw [Nat.testBit_and]
  · rw [Nat.testBit_and]
theorem and_low (x s m : Nat) (hm : m < 2 ^ s) (y : Nat) : (x + 2 ^ s * y) &&& m = x &&& m := by
  apply Nat.eq_of_testBit_eq
  intro i
  rw [Nat.testBit_and, Nat.testBit_and]
  by_cases hi : i < s
  · have : (x + 2 ^ s * y).testBit i = x.testBit i := by
      have h1 : ((x + 2 ^ s * y) % 2 ^ s).testBit i = (x % 2 ^ s).testBit i := by rw [Nat.add_mul_mod_self_left]
      rw [Nat.testBit_mod_two_pow, Nat.testBit_mod_two_pow] at h1
      simpa [hi] using h1
    rw [this]
  · have : m.testBit i = false := Nat.testBit_lt_two_pow (Nat.lt_of_lt_of_le hm (Nat.pow_le_pow_right (by decide) (by omega)))
    rw [this]; simp

/-- A mask of k equal bytes. -/
def mask (m : Nat) : Nat → Nat
  | 0 => 0
  | k + 1 => m + 256 * mask m k
/-- A byte-wise function of k bytes. -/
def bw (f : Nat → Nat) : Nat → Nat → Nat
  | 0, _ => 0
  | k + 1, x => f (x % 256) + 256 * bw f k (x / 256)

theorem shift_and (s m : Nat) (hs : s ≤ 8) (hm : m < 2 ^ (8 - s)) (hm' : m < 256) : ∀ k x, (x / 2 ^ s) &&& mask m k = bw (fun b => (b / 2 ^ s) &&& m) k x
  | 0, x => by simp [mask, bw]
  | k + 1, x => by
    have ih := shift_and s m hs hm hm' k (x / 256)
    simp only [mask, bw]
    rw [← ih]
    have hp : 2 ^ (8 - s) * 2 ^ s = 256 := by rw [← Nat.pow_add, Nat.sub_add_cancel hs]
    have hpos : 0 < 2 ^ s := Nat.two_pow_pos s
    have e : x / 2 ^ s = (x % 256 / 2 ^ s + 2 ^ (8 - s) * (x / 256 % 2 ^ s)) + 256 * (x / 256 / 2 ^ s) := by
      have h1 : x = x % 256 + 256 * (x / 256) := by omega
      have h2 : x / 256 = x / 256 % 2 ^ s + 2 ^ s * (x / 256 / 2 ^ s) := (Nat.mod_add_div _ _).symm
      have h3 : x = x % 256 + (2 ^ (8 - s) * (x / 256)) * 2 ^ s := by rw [Nat.mul_right_comm, hp]; exact h1
      have h4 : x / 2 ^ s = x % 256 / 2 ^ s + 2 ^ (8 - s) * (x / 256) := by
        conv => lhs; rw [h3]
        exact Nat.add_mul_div_right _ _ hpos
      rw [h4]
      conv => lhs; rw [h2]
      rw [Nat.mul_add, ← Nat.mul_assoc, hp, Nat.add_assoc]
    have hlt : x % 256 / 2 ^ s + 2 ^ (8 - s) * (x / 256 % 2 ^ s) < 256 := by
      have h1 : x % 256 / 2 ^ s < 2 ^ (8 - s) := by rw [Nat.div_lt_iff_lt_mul hpos, hp]; omega
      have h2 : x / 256 % 2 ^ s + 1 ≤ 2 ^ s := Nat.mod_lt _ hpos
      have h3 : 2 ^ (8 - s) * (x / 256 % 2 ^ s + 1) ≤ 2 ^ (8 - s) * 2 ^ s := Nat.mul_le_mul_left _ h2
      rw [hp, Nat.mul_add, Nat.mul_one] at h3
      omega
    rw [e, and_split _ _ _ _ hlt hm', and_low _ _ _ hm]

theorem bw_add (f g : Nat → Nat) : ∀ k x, bw f k x + bw g k x = bw (fun b => f b + g b) k x
  | 0, x => rfl
  | k + 1, x => by
    have := bw_add f g k (x / 256)
    simp only [bw]
    omega
theorem bw_lt (f : Nat → Nat) (hf : ∀ b, b < 256 → f b < 256) : ∀ k x, bw f k x < 256 ^ k
  | 0, x => by simp [bw]
  | k + 1, x => by
    have h1 := bw_lt f hf k (x / 256)
    have h2 := hf (x % 256) (by omega)
    simp only [bw, Nat.pow_succ]
    omega
theorem bw_bw (f g : Nat → Nat) (hf : ∀ b, b < 256 → f b < 256) : ∀ k x, bw g k (bw f k x) = bw (fun b => g (f b)) k x
  | 0, x => rfl
  | k + 1, x => by
    have h1 := bw_bw f g hf k (x / 256)
    have h2 := hf (x % 256) (by omega)
    simp only [bw]
    rw [show (f (x % 256) + 256 * bw f k (x / 256)) % 256 = f (x % 256) by omega, show (f (x % 256) + 256 * bw f k (x / 256)) / 256 = bw f k (x / 256) by omega, h1]
theorem bw_congr {f g : Nat → Nat} (h : ∀ b, b < 256 → f b = g b) : ∀ k x, bw f k x = bw g k x
  | 0, x => rfl
  | k + 1, x => by
    simp only [bw]
    rw [h _ (by omega), bw_congr h k]
theorem bw_id : ∀ k x, x < 256 ^ k → bw (fun b => b) k x = x
  | 0, x, h => by simp at h; subst h; rfl
  | k + 1, x, h => by
    rw [Nat.pow_succ] at h
    simp only [bw]
    rw [bw_id k (x / 256) (by omega)]
    omega

/-- The three byte-wise steps. -/
def p1 (b : Nat) : Nat := (b / 2 &&& 85) + (b &&& 85)
def p2 (b : Nat) : Nat := (b / 4 &&& 51) + (b &&& 51)
def p3 (b : Nat) : Nat := (b / 16 + b) &&& 15
def pop (b : Nat) : Nat := cnt (fun j => b.testBit j) 8
theorem p_lt : ∀ b : Fin 256, p1 b.val < 256 ∧ p2 b.val < 256 := by decide +kernel
theorem p_ok : ∀ b : Fin 256, p3 (p2 (p1 b.val)) = pop b.val ∧ pop b.val ≤ 8 ∧ p2 (p1 b.val) / 16 ≤ 4 ∧ p2 (p1 b.val) % 16 ≤ 4 := by decide +kernel

theorem mask85 : mask 85 8 = 6148914691236517205 := by decide
theorem mask51 : mask 51 8 = 3689348814741910323 := by decide
theorem mask15 : mask 15 8 = 1085102592571150095 := by decide

theorem step1 (x : Nat) : (x / 2 &&& 6148914691236517205) + (x &&& 6148914691236517205) = bw p1 8 x := by
  have h1 := shift_and 1 85 (by decide) (by decide) (by decide) 8 x
  have h2 := shift_and 0 85 (by decide) (by decide) (by decide) 8 x
  rw [mask85] at h1 h2
  simp only [Nat.pow_one, Nat.pow_zero, Nat.div_one] at h1 h2
  rw [h1, h2, bw_add]
  rfl
theorem step2 (x : Nat) : (x / 4 &&& 3689348814741910323) + (x &&& 3689348814741910323) = bw p2 8 x := by
  have h1 := shift_and 2 51 (by decide) (by decide) (by decide) 8 x
  have h2 := shift_and 0 51 (by decide) (by decide) (by decide) 8 x
  rw [mask51] at h1 h2
  rw [show (2 : Nat) ^ 2 = 4 from rfl] at h1
  simp only [Nat.pow_zero, Nat.div_one] at h2
  rw [h1, h2, bw_add]
  rfl
/-- The third step, where every nibble is at most 4. -/
theorem step3 : ∀ k y, (∀ j, y / 256 ^ j % 256 / 16 ≤ 4 ∧ y / 256 ^ j % 256 % 16 ≤ 4) → (y / 16 + y) &&& mask 15 k = bw p3 k y
  | 0, y, _ => by simp [mask, bw]
  | k + 1, y, h => by
    have ih := step3 k (y / 256) (fun j => by have := h (j + 1); rw [Nat.pow_succ, Nat.mul_comm, ← Nat.div_div_eq_div_mul] at this; exact this)
    have h0 := h 0
    have h1 := h 1
    simp only [Nat.pow_zero, Nat.div_one, Nat.pow_one] at h0 h1
    simp only [mask, bw]
    rw [← ih]
    have e : y / 16 + y = (y % 256 / 16 + y % 256 + 2 ^ 4 * (y / 256 % 256 % 16)) + 256 * (y / 256 / 16 + y / 256) := by omega
    rw [e, and_split _ _ _ _ (by omega) (by decide), and_low _ 4 15 (by decide)]
    rfl

theorem bw_byte (f : Nat → Nat) (hf : ∀ b, b < 256 → f b < 256) : ∀ k x j, bw f k x / 256 ^ j % 256 = if j < k then f (x / 256 ^ j % 256) else 0
  | 0, x, j => by simp [bw]
  | k + 1, x, 0 => by
    have h2 := hf (x % 256) (by omega)
    simp only [bw, Nat.pow_zero, Nat.div_one]
    rw [if_pos (by omega)]
    omega
  | k + 1, x, j + 1 => by
    have h2 := hf (x % 256) (by omega)
    have ih := bw_byte f hf k (x / 256) j
    rw [Nat.pow_succ, Nat.mul_comm, ← Nat.div_div_eq_div_mul, ← Nat.div_div_eq_div_mul]
    simp only [bw]
    rw [show (f (x % 256) + 256 * bw f k (x / 256)) / 256 = bw f k (x / 256) by omega, ih]
    by_cases h : j < k
    · rw [if_pos h, if_pos (by omega)]
    · rw [if_neg h, if_neg (by omega)]

theorem steps (x : Nat) : (bw p2 8 (bw p1 8 x) / 16 + bw p2 8 (bw p1 8 x)) &&& 1085102592571150095 = bw pop 8 x := by
  have l1 : ∀ b, b < 256 → p1 b < 256 := fun b hb => (p_lt ⟨b, hb⟩).1
  have l2 : ∀ b, b < 256 → p2 b < 256 := fun b hb => (p_lt ⟨b, hb⟩).2
  have l12 : ∀ b, b < 256 → p2 (p1 b) < 256 := fun b hb => l2 _ (l1 b hb)
  rw [bw_bw p1 p2 l1, ← mask15, step3 8 _ (fun j => ?_), bw_bw _ p3 l12, bw_congr (fun b hb => (p_ok ⟨b, hb⟩).1)]
  rw [bw_byte _ l12]
  split
  · exact (p_ok ⟨x / 256 ^ j % 256, by omega⟩).2.2
  · exact ⟨by decide, by decide⟩

theorem cnt_bytes (k x : Nat) : cnt (fun j => x.testBit j) (8 * (k + 1)) = pop (x % 256) + cnt (fun j => (x / 256).testBit j) (8 * k) := by
  rw [show 8 * (k + 1) = 8 + 8 * k by omega, cnt_add]
  congr 1
  · exact cnt_congr (fun p hp => by rw [show 256 = 2 ^ 8 from rfl, Nat.testBit_mod_two_pow]; simp [hp])
  · exact cnt_congr (fun p hp => by rw [show 256 = 2 ^ 8 from rfl, Nat.testBit_div_two_pow, Nat.add_comm])

theorem vstep {T1 T2 T3 U1 U2 c1 c2 : Nat} (u1 : U1 = T1 + T2) (u2 : U2 = T2 + T3) (t1 : T1 = c1 + 256 * T2) (t2 : T2 = c2 + 256 * T3) : U1 = (c1 + c2) + 256 * U2 := by omega
theorem xstep {U1 U2 U3 U4 V1 V2 a b : Nat} (w1 : V1 = U1 + U3) (w2 : V2 = U2 + U4) (v1 : U1 = a + 256 * U2) (v3 : U3 = b + 256 * U4) : V1 = (a + b) + 256 * V2 := by omega
theorem div1 {y c T : Nat} (hc : c ≤ 8) (h : y = c + 256 * T) : y / 256 = T := by omega
theorem div2 {z a b U1 U2 : Nat} (ha : a ≤ 16) (hb : b ≤ 16) (h : z = a + 256 * U1) (h1 : U1 = b + 256 * U2) : z / 65536 = U2 := by omega
theorem div4 {z a b c d V1 V2 V3 V4 : Nat} (ha : a ≤ 32) (hb : b ≤ 32) (hc : c ≤ 32) (hd : d ≤ 32) (h : z = a + 256 * V1) (h1 : V1 = b + 256 * V2) (h2 : V2 = c + 256 * V3) (h3 : V3 = d + 256 * V4) : z / 4294967296 = V4 := by omega
theorem mod128 {z a b V1 V4 V5 : Nat} (ha : a ≤ 32) (hb : b ≤ 32) (h : z = a + 256 * V1) (h4 : V4 = b + 256 * V5) : (z + V4) % 128 = a + b := by omega

/-- The last steps, off the eight bytes. -/
theorem last (c0 c1 c2 c3 c4 c5 c6 c7 : Nat) (h0 : c0 ≤ 8) (h1 : c1 ≤ 8) (h2 : c2 ≤ 8) (h3 : c3 ≤ 8) (h4 : c4 ≤ 8) (h5 : c5 ≤ 8) (h6 : c6 ≤ 8) (h7 : c7 ≤ 8) (T1 T2 T3 T4 T5 T6 T7 y z1 z2 z3 : Nat)
    (t0 : y = c0 + 256 * T1) (t1 : T1 = c1 + 256 * T2) (t2 : T2 = c2 + 256 * T3) (t3 : T3 = c3 + 256 * T4) (t4 : T4 = c4 + 256 * T5) (t5 : T5 = c5 + 256 * T6) (t6 : T6 = c6 + 256 * T7) (t7 : T7 = c7 + 256 * 0)
    (e1 : z1 = y + y / 256) (e2 : z2 = z1 + z1 / 65536) (e3 : z3 = z2 + z2 / 4294967296) :
    z3 % 128 = (c0 + c1 + (c2 + c3)) + (c4 + c5 + (c6 + c7)) := by
  rw [div1 h0 t0] at e1
  obtain ⟨U1, u1⟩ : ∃ U, U = T1 + T2 := ⟨_, rfl⟩
  obtain ⟨U2, u2⟩ : ∃ U, U = T2 + T3 := ⟨_, rfl⟩
  obtain ⟨U3, u3⟩ : ∃ U, U = T3 + T4 := ⟨_, rfl⟩
  obtain ⟨U4, u4⟩ : ∃ U, U = T4 + T5 := ⟨_, rfl⟩
  obtain ⟨U5, u5⟩ : ∃ U, U = T5 + T6 := ⟨_, rfl⟩
  obtain ⟨U6, u6⟩ : ∃ U, U = T6 + T7 := ⟨_, rfl⟩
  obtain ⟨U7, u7⟩ : ∃ U, U = T7 + 0 := ⟨_, rfl⟩
  have v0 := vstep e1 u1 t0 t1
  have v1 := vstep u1 u2 t1 t2
  have v2 := vstep u2 u3 t2 t3
  have v3 := vstep u3 u4 t3 t4
  have v4 := vstep u4 u5 t4 t5
  have v5 := vstep u5 u6 t5 t6
  have v6 := vstep u6 u7 t6 t7
  have v7 : U7 = c7 + 256 * 0 := by rw [u7, t7]
  rw [div2 (by omega) (by omega) v0 v1] at e2
  obtain ⟨V1, w1⟩ : ∃ V, V = U1 + U3 := ⟨_, rfl⟩
  obtain ⟨V2, w2⟩ : ∃ V, V = U2 + U4 := ⟨_, rfl⟩
  obtain ⟨V3, w3⟩ : ∃ V, V = U3 + U5 := ⟨_, rfl⟩
  obtain ⟨V4, w4⟩ : ∃ V, V = U4 + U6 := ⟨_, rfl⟩
  obtain ⟨V5, w5⟩ : ∃ V, V = U5 + U7 := ⟨_, rfl⟩
  have x0 := xstep e2 w1 v0 v2
  have x1 := xstep w1 w2 v1 v3
  have x2 := xstep w2 w3 v2 v4
  have x3 := xstep w3 w4 v3 v5
  have x4 := xstep w4 w5 v4 v6
  clear v0 v1 v2 v3 v4 v5 v6 v7 w1 w2 w3 w4 w5 u1 u2 u3 u4 u5 u6 u7 t0 t1 t2 t3 t4 t5 t6 t7 e1 e2
  have b0 : c0 + c1 + (c2 + c3) ≤ 32 := by clear x0 x1 x2 x3 x4 e3; omega
  have b1 : c1 + c2 + (c3 + c4) ≤ 32 := by clear x0 x1 x2 x3 x4 e3; omega
  have b2 : c2 + c3 + (c4 + c5) ≤ 32 := by clear x0 x1 x2 x3 x4 e3; omega
  have b3 : c3 + c4 + (c5 + c6) ≤ 32 := by clear x0 x1 x2 x3 x4 e3; omega
  have b4 : c4 + c5 + (c6 + c7) ≤ 32 := by clear x0 x1 x2 x3 x4 e3; omega
  rw [div4 b0 b1 b2 b3 x0 x1 x2 x3] at e3
  rw [e3, mod128 b0 b4 x0 x4]

theorem bw_pop_le : ∀ k x, bw pop k x ≤ 8 * mask 1 k
  | 0, x => by simp [bw]
  | k + 1, x => by
    have h1 := bw_pop_le k (x / 256)
    have h2 := (p_ok ⟨x % 256, by omega⟩).2.1
    simp only [bw, mask]
    simp only at h2
    omega

theorem ones (x y z1 z2 z3 : Nat) (hy : y = bw pop 8 x) (e1 : z1 = y + y / 256) (e2 : z2 = z1 + z1 / 65536) (e3 : z3 = z2 + z2 / 4294967296) :
    z3 % 128 = cnt (fun j => x.testBit j) 64 ∧ y ≤ 578721382704613384 := by
  refine ⟨?_, ?_⟩
  · have hp : ∀ b, b < 256 → pop b ≤ 8 := fun b hb => (p_ok ⟨b, hb⟩).2.1
    have hc : cnt (fun j => x.testBit j) 64 = pop (x % 256) + (pop (x / 256 % 256) + (pop (x / 256 / 256 % 256) + (pop (x / 256 / 256 / 256 % 256) + (pop (x / 256 / 256 / 256 / 256 % 256) + (pop (x / 256 / 256 / 256 / 256 / 256 % 256) +
        (pop (x / 256 / 256 / 256 / 256 / 256 / 256 % 256) + (pop (x / 256 / 256 / 256 / 256 / 256 / 256 / 256 % 256) + 0))))))) := by
      rw [show (64 : Nat) = 8 * (7 + 1) from rfl, cnt_bytes 7, cnt_bytes 6, cnt_bytes 5, cnt_bytes 4, cnt_bytes 3, cnt_bytes 2, cnt_bytes 1, cnt_bytes 0]
      rfl
    rw [hc, last _ _ _ _ _ _ _ _ (hp _ (Nat.mod_lt _ (by decide))) (hp _ (Nat.mod_lt _ (by decide))) (hp _ (Nat.mod_lt _ (by decide))) (hp _ (Nat.mod_lt _ (by decide))) (hp _ (Nat.mod_lt _ (by decide))) (hp _ (Nat.mod_lt _ (by decide))) (hp _ (Nat.mod_lt _ (by decide))) (hp _ (Nat.mod_lt _ (by decide)))
      _ _ _ _ _ _ _ y z1 z2 z3 hy rfl rfl rfl rfl rfl rfl rfl e1 e2 e3]
    clear hc hp hy e1 e2 e3
    omega
  · have := bw_pop_le 8 x
    have e : 8 * mask 1 8 = 578721382704613384 := by decide
    rw [hy, ← e]
    exact this
end Go.Proofs.YbulkuieFmt.C
