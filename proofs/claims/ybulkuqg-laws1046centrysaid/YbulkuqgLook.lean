/-
  (*table).lookup and the law (seat b1046a).
-/
import Derived.Test.YbulkuqgMake
namespace Go.Proofs.Ybulkuqg
open Go.RowKit

set_option maxRecDepth 100000 in
theorem look_plain (w0 w : World) (b b32 m A I E N tb sb K e8 : Nat) (hs : Sub w0 w tb sb m I N E N) (hIl : I < 1024) (hb : (b : Int) % 4294967296 = (b32 : Int)) (hA : bits .and .u32 (b32 : Int) (m : Int) = (A : Int)) (hI : bits .and .u32 (A : Int) 1023 = (I : Int))
    (h8 : (E : Int) / 256 = (e8 : Int)) (hK : bits .and .u32 (e8 : Int) 15 = (K : Int)) (hk3 : ((K : Int) == 3) = false) :
    Calls Yba.prog 6 #[.pointer (some ⟨tb, 0, none⟩), .int .u64 (b : Int)] w fun e w' => e = .returned (.int .u32 (E : Int)) ∧ Below w.heap.size w w' := by
  obtain ⟨f, hr, h1, h2, h3⟩ := hs.tab
  have cm := hr.cell (i := 1024) (by omega)
  have ci := hr.cell (i := I) (by omega)
  rw [h1] at cm
  rw [h3] at ci
  clear hr h1 h2 h3 hs
  go_enter Yba.func6, Yba.ntmps6
  go_wp2_with fail
  go_quiet (fail)
  go_wp2_with fail
  go_ret
  exact ⟨rfl, below_drewN (Below.refl _ _) _⟩

set_option maxRecDepth 100000 in
theorem look_link (w0 w : World) (b b32 m A I E N tb sb e8 e4 q q32 V X P R J : Nat) (hs : Sub w0 w tb sb m I N E N) (hIl : I < 1024) (hb : (b : Int) % 4294967296 = (b32 : Int)) (hA : bits .and .u32 (b32 : Int) (m : Int) = (A : Int)) (hI : bits .and .u32 (A : Int) 1023 = (I : Int))
    (h8 : (E : Int) / 256 = (e8 : Int)) (hK : bits .and .u32 (e8 : Int) 15 = 3) (hV : (E : Int) / 65536 = (V : Int)) (hq : (b : Int) / 1024 = (q : Int)) (hq32 : (q : Int) % 4294967296 = (q32 : Int)) (h4 : (E : Int) / 16 = (e4 : Int)) (hX : bits .and .u32 (e4 : Int) 15 = (X : Int))
    (hX8 : X < 8) (hp : (2 : Int) ^ X % 4294967296 = (P : Int)) (hP1 : 1 ≤ P) (hP2 : P ≤ 128) (hR : bits .and .u32 (q32 : Int) ((P : Int) - 1) = (R : Int)) (hJ : (V : Int) + (R : Int) = (J : Int)) (hJN : J < N) (hN : N ≤ 200) :
    Calls Yba.prog 6 #[.pointer (some ⟨tb, 0, none⟩), .int .u64 (b : Int)] w fun e w' => e = .returned (.int .u32 (subAt J)) ∧ Below w.heap.size w w' := by
  have c5 := hs.c5
  have cj := hs.row.cell hJN
  rw [if_pos hJN] at cj
  obtain ⟨f, hr, h1, h2, h3⟩ := hs.tab
  have cm := hr.cell (i := 1024) (by omega)
  have ci := hr.cell (i := I) (by omega)
  rw [h1] at cm
  rw [h3] at ci
  clear hr h1 h2 h3 hs
  go_enter Yba.func6, Yba.ntmps6
  go_wp2_with fail
  go_quiet (fail)
  go_wp2_with fail
  go_ret
  exact ⟨rfl, below_drewN (Below.refl _ _) _⟩
end Go.Proofs.Ybulkuqg
