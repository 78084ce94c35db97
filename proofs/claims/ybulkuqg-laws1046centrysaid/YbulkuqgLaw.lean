/-
  LawS1046CEntry (seat b1046a): it returns true.
-/
import Derived.Test.YbulkuqgLook
namespace Go.Proofs.Ybulkuqg
open Go.RowKit

theorem idx_eq (b m : Nat) : (b % 4294967296 &&& m) % 1024 = (b % 1024) &&& m := by
  have e1 : b % 4294967296 % 1024 = b % 1024 := by omega
  rw [show (1024 : Nat) = 2 ^ 10 from rfl, ← Nat.and_two_pow_sub_one_eq_mod (b % 4294967296 &&& m), Nat.and_assoc, Nat.and_comm m, ← Nat.and_assoc, Nat.and_two_pow_sub_one_eq_mod, show (2 ^ 10 : Nat) = 1024 from rfl, e1]

/-- The numbers of the walk. -/
structure Nums (b m k v x l : Nat) (K V X L B I P E b32 A e8 e4 q q32 R J : Nat) : Prop where
  hk : (k : Int) % 5 = (K : Int)
  hv : (v : Int) % 64 = (V : Int)
  hx : (x : Int) % 8 = (X : Int)
  hl : (l : Int) % 16 = (L : Int)
  hb : (b : Int) % 1024 = (B : Int)
  hK : K < 5
  hV : V < 64
  hX : X < 8
  hL : L < 16
  hI : bits .and .u32 (B : Int) (m : Int) = (I : Int)
  hIl : I < 1024
  hP : P = 2 ^ X
  hE : E = V * 65536 + K * 256 + X * 16 + L
  hb32 : (b : Int) % 4294967296 = (b32 : Int)
  hA : bits .and .u32 (b32 : Int) (m : Int) = (A : Int)
  hI2 : bits .and .u32 (A : Int) 1023 = (I : Int)
  h8 : (E : Int) / 256 = (e8 : Int)
  hK2 : bits .and .u32 (e8 : Int) 15 = (K : Int)
  hV2 : (E : Int) / 65536 = (V : Int)
  hq : (b : Int) / 1024 = (q : Int)
  hq32 : (q : Int) % 4294967296 = (q32 : Int)
  h4 : (E : Int) / 16 = (e4 : Int)
  hX2 : bits .and .u32 (e4 : Int) 15 = (X : Int)
  hp : (2 : Int) ^ X % 4294967296 = (P : Int)
  hP1 : 1 ≤ P
  hP2 : P ≤ 128
  hR : bits .and .u32 (q32 : Int) ((P : Int) - 1) = (R : Int)
  hR2 : (q : Int) % (P : Int) = (R : Int)
  hRl : R < P
  hJ : (V : Int) + (R : Int) = (J : Int)
  hJl : J < V + P
  hK3 : (e8 : Int) % 16 = (K : Int)
  hq64 : q < 18446744073709551616

theorem nums (b m k v x l : Nat) (hb : b < 18446744073709551616) (hm : m < 4294967296) : ∃ K V X L B I P E b32 A e8 e4 q q32 R J, Nums b m k v x l K V X L B I P E b32 A e8 e4 q q32 R J := by
  obtain ⟨K, hK⟩ : ∃ K, K = k % 5 := ⟨_, rfl⟩
  obtain ⟨V, hV⟩ : ∃ V, V = v % 64 := ⟨_, rfl⟩
  obtain ⟨X, hX⟩ : ∃ X, X = x % 8 := ⟨_, rfl⟩
  obtain ⟨L, hL⟩ : ∃ L, L = l % 16 := ⟨_, rfl⟩
  obtain ⟨E, hE⟩ : ∃ E, E = V * 65536 + K * 256 + X * 16 + L := ⟨_, rfl⟩
  obtain ⟨P, hP⟩ : ∃ P, P = 2 ^ X := ⟨_, rfl⟩
  have hP1 : 1 ≤ P := by rw [hP]; exact Nat.two_pow_pos X
  have hP2 : P ≤ 128 := by rw [hP]; exact Nat.pow_le_pow_right (by omega) (show X ≤ 7 by omega)
  have hA : b % 4294967296 &&& m < 4294967296 := Nat.lt_of_le_of_lt Nat.and_le_left (by omega)
  have hI : (b % 1024) &&& m < 1024 := Nat.lt_of_le_of_lt Nat.and_le_left (by omega)
  have hRl : b / 1024 % P < P := Nat.mod_lt _ (by omega)
  refine ⟨K, V, X, L, b % 1024, (b % 1024) &&& m, P, E, b % 4294967296, b % 4294967296 &&& m, E / 256, E / 16, b / 1024, b / 1024 % 4294967296, b / 1024 % P, V + b / 1024 % P, ?_⟩
  have hp : ((2 : Int) ^ X) = (P : Int) := by rw [hP]; simp
  exact { hk := by omega, hv := by omega, hx := by omega, hl := by omega, hb := by omega, hK := by omega, hV := by omega, hX := by omega, hL := by omega, hI := u32_and_nat _ _ (by omega) hm, hIl := hI, hP := hP, hE := hE, hb32 := by omega, hA := u32_and_nat _ _ (by omega) hm, hI2 := by
            have h := and_ones (b % 4294967296 &&& m) 10 hA (by omega)
            rw [show (2 ^ 10 : Nat) = 1024 from rfl, idx_eq] at h
            exact h, h8 := by omega, hK2 := by
            have h := and_ones (E / 256) 4 (by omega) (by omega)
            refine h.trans ?_
            omega, hV2 := by omega, hq := by omega, hq32 := by omega, h4 := by omega, hX2 := by
            have h := and_ones (E / 16) 4 (by omega) (by omega)
            refine h.trans ?_
            omega, hp := by rw [hp]; omega, hP1 := hP1, hP2 := hP2, hR := by
            have h := and_ones (b / 1024 % 4294967296) X (by omega) (by rw [← hP]; omega)
            rw [← hP, show ((P - 1 : Nat) : Int) = (P : Int) - 1 by omega] at h
            rw [h, hP, Nat.mod_mod_of_dvd _ (show 2 ^ X ∣ 4294967296 from Nat.pow_dvd_pow 2 (show X ≤ 32 by omega))], hR2 := (Int.natCast_emod _ _).symm, hRl := hRl, hJ := by omega, hJl := by omega, hK3 := by omega, hq64 := by omega }

set_option maxRecDepth 100000 in
theorem law_any (b m k v x l : Nat) (w : World) (hb : b < 18446744073709551616) (hm : m < 4294967296) (hk0 : k < 256) (hv0 : v < 65536) (hx0 : x < 256) (hl0 : l < 256) :
    Calls Yba.prog 3 #[.int .u64 (b : Int), .int .u32 (m : Int), .int .u8 (k : Int), .int .u16 (v : Int), .int .u8 (x : Int), .int .u8 (l : Int)] w fun e w' => e = .returned (.bool true) ∧ Below w.heap.size w w' := by
  obtain ⟨K, V, X, L, B, I, P, E, b32, A, e8, e4, q, q32, R, J, n⟩ := nums b m k v x l hb hm
  have M := make_any b m k v x l K V X L B I P w n.hk n.hv n.hx n.hl n.hb n.hK n.hV n.hX n.hL n.hI n.hIl n.hP hk0 hv0 hx0 hl0
  have hV := n.hV
  have hX := n.hX
  have hP1 := n.hP1
  have hP2 := n.hP2
  have hRl := n.hRl
  have h8 := n.h8
  have hK3 := n.hK3
  have hq := n.hq
  have hR2 := n.hR2
  have hJ := n.hJ
  have hJl := n.hJl
  have hp64 : IntKind.u64.wrap ((2 : Int) ^ X) = (P : Int) := by
    have hp : ((2 : Int) ^ X) = (P : Int) := by rw [n.hP]; simp
    rw [hp]
    rw [IntKind.wrap_u64]
    omega
  have hcmp : (subAt J == ((J : Int) * 2654435761 + 12345) % 4294967296) = true := by simp [subAt]
  have hEn := n.hE
  by_cases hK : K = 3
  · subst hK
    have LK := fun w' sb hs => look_link w w' b b32 m A I E (V + P) w.heap.size sb e8 e4 q q32 V X P R J hs n.hIl n.hb32 n.hA n.hI2 n.h8 n.hK2 n.hV2 n.hq n.hq32 n.h4 n.hX2 n.hX n.hp n.hP1 n.hP2 n.hR n.hJ n.hJl (by omega)
    have HLK : Hid (∀ w' sb, _) := LK
    have HE : Hid (E = _) := hEn
    clear LK hEn n
    go_enter Yba.func3, Yba.ntmps3
    go_wp2_with (first | (go_at_call 5; refine M.mono ?_; rintro e w1 ⟨E', sb, hE', rfl, hs⟩; rw [← HE.out] at hE'; subst hE') | (go_at_call 6; refine (HLK.out _ _ hs).mono ?_; rintro e w2 ⟨rfl, hb2⟩))
    go_ret
    exact ⟨rfl, hs.bel.trans (hb2.mono hs.bel.size)⟩
  · have hk3 : ((K : Int) == 3) = false := by simp; omega
    have LK := fun w' sb hs => look_plain w w' b b32 m A I E (V + P) w.heap.size sb K e8 hs n.hIl n.hb32 n.hA n.hI2 n.h8 n.hK2 hk3
    have HLK : Hid (∀ w' sb, _) := LK
    have HE : Hid (E = _) := hEn
    clear LK hEn n
    go_enter Yba.func3, Yba.ntmps3
    go_wp2_with (first | (go_at_call 5; refine M.mono ?_; rintro e w1 ⟨E', sb, hE', rfl, hs⟩; rw [← HE.out] at hE'; subst hE') | (go_at_call 6; refine (HLK.out _ _ hs).mono ?_; rintro e w2 ⟨rfl, hb2⟩))
    go_ret
    exact ⟨rfl, hs.bel.trans (hb2.mono hs.bel.size)⟩
end Go.Proofs.Ybulkuqg
