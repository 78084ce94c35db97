/-
  A heap of one object, as zzs1031bheap lays it (seat b1031aF): what its cells hold, and what the reading functions give on it: current, word, object, refusal, badIndex, GetWord.
-/
import Derived.Test.YbulkuieFmtSmall
import Derived.Test.YbulkuieFmtErrs
import Derived.WalkKit
import Derived.WalkSpells
import Derived.WalkSmall
import Derived.BigQuiet
import Derived.Deep.QuietTactic
import Derived.Deep.RegionWith
namespace Go.Proofs.YbulkuieFmt
open Go.RowKit

/-- What the heap's cells hold: hb the Heap's block, ab the arena's, sb the start bits'; r slots, n words, hdr the object's header, ws its words. -/
structure BH (w : World) (hb ab sb r n : Nat) (hdr : Int) (ws : Nat → Int) : Prop where
  lh : hb < w.heap.size
  la : ab < w.heap.size
  ls : sb < w.heap.size
  hr : r ≤ 3
  hn : n ≤ 1024
  c1 : w.cell? ⟨hb, 1, none⟩ = some (.int .u64 7)
  c2 : w.cell? ⟨hb, 2, none⟩ = some (.int .u64 1970324836974592)
  c3 : w.cell? ⟨hb, 3, none⟩ = some (.int .u64 16)
  c4 : w.cell? ⟨hb, 4, none⟩ = some (.slice (some ⟨ab, 0, none⟩) (1 + r + n) (1 + r + n))
  c6 : w.cell? ⟨hb, 6, none⟩ = some (.int .i64 ((1 + r + n : Nat) : Int))
  c9 : w.cell? ⟨hb, 9, none⟩ = some (.slice (some ⟨sb, 0, none⟩) ((1 + r + n + 63) / 64) ((1 + r + n + 63) / 64))
  a0 : w.cell? ⟨ab, 0, none⟩ = some (.int .u64 hdr)
  aw : ∀ j, j < n → w.cell? ⟨ab, 1 + r + j, none⟩ = some (.int .u64 (ws j))
  s0 : ∀ q, q < (1 + r + n + 63) / 64 → w.cell? ⟨sb, q, none⟩ = some (.int .u64 (if q = 0 then 1 else 0))
  eR : bits .and .u64 (hdr / 2147483648) 2147483647 = (r : Int)
  eW : bits .and .u64 hdr 2147483647 = (n : Int)

theorem BH.mono {w w' : World} {hb ab sb r n : Nat} {hdr : Int} {ws : Nat → Int} (h : BH w hb ab sb r n hdr ws) {B : Nat} (hB : w.heap.size ≤ B) (hb' : Below B w w') : BH w' hb ab sb r n hdr ws := by
  have k : ∀ b o, b < w.heap.size → w'.cell? ⟨b, o, none⟩ = w.cell? ⟨b, o, none⟩ := fun b o hlt => hb'.cell (p := ⟨b, o, none⟩) (Nat.lt_of_lt_of_le hlt hB)
  have z := hb'.size
  exact ⟨by have := h.lh; omega, by have := h.la; omega, by have := h.ls; omega, h.hr, h.hn, by rw [k _ _ h.lh]; exact h.c1, by rw [k _ _ h.lh]; exact h.c2, by rw [k _ _ h.lh]; exact h.c3, by rw [k _ _ h.lh]; exact h.c4, by rw [k _ _ h.lh]; exact h.c6,
    by rw [k _ _ h.lh]; exact h.c9, by rw [k _ _ h.la]; exact h.a0, fun j hj => by rw [k _ _ h.la]; exact h.aw j hj, fun q hq => by rw [k _ _ h.ls]; exact h.s0 q hq, h.eR, h.eW⟩

theorem cur_out (hb : Nat) (bb A D : Int) (top : Nat) (w : World) (hlt : hb < w.heap.size)
    (hA : bits .xor .u64 bb 1970324836974592 = A) (hD : IntKind.u64.wrap (A - 1) = D) (htop : top ≤ 9223372036854775807) (ho : (top : Int) ≤ D)
    (c2 : w.cell? ⟨hb, 2, none⟩ = some (.int .u64 1970324836974592)) (c6 : w.cell? ⟨hb, 6, none⟩ = some (.int .i64 top)) :
    Calls Ybaf.prog 27 #[.pointer (some ⟨hb, 0, none⟩), .agg #[.int .u64 bb]] w fun e w' => e = .returned (.tuple #[.int .i64 (wrap64 A), .bool false]) ∧ Below w.heap.size w w' := by
  have c2' : ∀ o, (w.alloc o).cell? ⟨hb, 2, none⟩ = some (.int .u64 1970324836974592) := fun o => by rw [World.cell?_alloc_past _ _ _ hlt]; exact c2
  have c6' : ∀ o, (w.alloc o).cell? ⟨hb, 6, none⟩ = some (.int .i64 top) := fun o => by rw [World.cell?_alloc_past _ _ _ hlt]; exact c6
  clear c2 c6
  go_enter Ybaf.func27, Ybaf.ntmps27
  go_wp2
  go_quiet (fail)
  go_wp2
  go_ret2
  exact ⟨rfl, below_drewN ((Below.refl _ _).alloc (Nat.le_refl _) _) _⟩

theorem cur_in (hb sb L cap d : Nat) (bb A x : Int) (top : Nat) (w : World) (hlt : hb < w.heap.size) (hls : sb < w.heap.size)
    (hA : bits .xor .u64 bb 1970324836974592 = A) (hD : IntKind.u64.wrap (A - 1) = (d : Int)) (htop : top ≤ 9223372036854775807) (ho : d < top)
    (hL : d / 64 < L) (hL' : L ≤ 140737488355328) (hx0 : 0 ≤ x) (hx : x < 18446744073709551616)
    (c2 : w.cell? ⟨hb, 2, none⟩ = some (.int .u64 1970324836974592)) (c6 : w.cell? ⟨hb, 6, none⟩ = some (.int .i64 top)) (c9 : w.cell? ⟨hb, 9, none⟩ = some (.slice (some ⟨sb, 0, none⟩) L cap))
    (cx : w.cell? ⟨sb, d / 64, none⟩ = some (.int .u64 x)) :
    Calls Ybaf.prog 27 #[.pointer (some ⟨hb, 0, none⟩), .agg #[.int .u64 bb]] w fun e w' => e = .returned (.tuple #[.int .i64 (wrap64 A), .bool (x.toNat.testBit (d % 64))]) ∧ Below w.heap.size w w' := by
  have c2' : ∀ o, (w.alloc o).cell? ⟨hb, 2, none⟩ = some (.int .u64 1970324836974592) := fun o => by rw [World.cell?_alloc_past _ _ _ hlt]; exact c2
  have c6' : ∀ o, (w.alloc o).cell? ⟨hb, 6, none⟩ = some (.int .i64 top) := fun o => by rw [World.cell?_alloc_past _ _ _ hlt]; exact c6
  have c9' : ∀ o, (w.alloc o).cell? ⟨hb, 9, none⟩ = some (.slice (some ⟨sb, 0, none⟩) L cap) := fun o => by rw [World.cell?_alloc_past _ _ _ hlt]; exact c9
  have cx' : ∀ o n, ((w.alloc o).drewN n).cell? ⟨sb, d / 64, none⟩ = some (.int .u64 x) := fun o n => by rw [World.cell?_drewN, World.cell?_alloc_past _ _ _ hls]; exact cx
  clear c2 c6 c9 cx
  go_enter Ybaf.func27, Ybaf.ntmps27
  go_wp2
  go_quiet (fail)
  go_wp2_with (go_at_call 31; refine (has_any sb L cap d x _ hL hL' (by omega) ?_ hx0 hx).mono ?_; exact cx' _ _; rintro e w' ⟨rfl, rfl⟩)
  go_ret2
  exact ⟨rfl, below_drewN ((Below.refl _ _).alloc (Nat.le_refl _) _) _⟩

/-- current at the one object's reference. -/
theorem cur_yes {w : World} {hb ab sb r n : Nat} {hdr : Int} {ws : Nat → Int} (h : BH w hb ab sb r n hdr ws) :
    Calls Ybaf.prog 27 #[.pointer (some ⟨hb, 0, none⟩), .agg #[.int .u64 1970324836974593]] w fun e w' => e = .returned (.tuple #[.int .i64 1, .bool true]) ∧ Below w.heap.size w w' := by
  have hr := h.hr
  have hn := h.hn
  refine (cur_in hb sb ((1 + r + n + 63) / 64) ((1 + r + n + 63) / 64) 0 1970324836974593 1 1 (1 + r + n) w h.lh h.ls (by decide) (by decide) (by omega) (by omega) (by omega) (by omega) (by decide) (by decide) h.c2 h.c6 h.c9 (by simpa using h.s0 0 (by omega))).mono ?_
  rintro e w' ⟨rfl, hbel⟩
  have e1 : wrap64 1 = 1 := by simp [wrap64]
  have e2 : (Int.toNat 1).testBit (0 % 64) = true := by decide
  rw [e1, e2]
  exact ⟨rfl, hbel⟩

theorem xor_eq (bb : Int) (b0 : 0 ≤ bb) (b1 : bb < 18446744073709551616) : ∃ a : Nat, bits .xor .u64 bb 1970324836974592 = (a : Int) ∧ a < 18446744073709551616 ∧ (a = 1 → bb = 1970324836974593) := by
  obtain ⟨x, rfl⟩ := Int.eq_ofNat_of_zero_le b0
  refine ⟨x ^^^ 1970324836974592, u64_xor_nat x 1970324836974592 (by omega) (by omega), Nat.xor_lt_two_pow (n := 64) (by omega) (by omega), fun h => ?_⟩
  have e : x = (x ^^^ 1970324836974592) ^^^ 1970324836974592 := by rw [Nat.xor_assoc, Nat.xor_self, Nat.xor_zero]
  rw [h] at e
  have : (1 ^^^ 1970324836974592 : Nat) = 1970324836974593 := by decide
  omega

/-- current at any other bits. -/
theorem cur_no {w : World} {hb ab sb r n : Nat} {hdr : Int} {ws : Nat → Int} (h : BH w hb ab sb r n hdr ws) (bb : Int) (b0 : 0 ≤ bb) (b1 : bb < 18446744073709551616) (hne : bb ≠ 1970324836974593) :
    Calls Ybaf.prog 27 #[.pointer (some ⟨hb, 0, none⟩), .agg #[.int .u64 bb]] w fun e w' => ∃ x : Int, e = .returned (.tuple #[.int .i64 x, .bool false]) ∧ Below w.heap.size w w' := by
  have hr := h.hr
  have hn := h.hn
  obtain ⟨a, hA, ha, h1⟩ := xor_eq bb b0 b1
  have ha1 : a ≠ 1 := fun e => hne (h1 e)
  have hD : IntKind.u64.wrap ((a : Int) - 1) = (((a + 18446744073709551615) % 18446744073709551616 : Nat) : Int) := by rw [IntKind.wrap_u64]; omega
  rcases Nat.lt_or_ge ((a + 18446744073709551615) % 18446744073709551616) (1 + r + n) with hlt | hge
  · obtain ⟨d, hd⟩ : ∃ d, d = (a + 18446744073709551615) % 18446744073709551616 := ⟨_, rfl⟩
    rw [← hd] at hD hlt
    have hd0 : d ≠ 0 := by omega
    refine (cur_in hb sb ((1 + r + n + 63) / 64) ((1 + r + n + 63) / 64) d bb a _ (1 + r + n) w h.lh h.ls hA hD (by omega) hlt (by omega) (by omega) ?_ ?_ h.c2 h.c6 h.c9 (h.s0 (d / 64) (by omega))).mono ?_
    · split <;> decide
    · split <;> decide
    · rintro e w' ⟨rfl, hbel⟩
      refine ⟨wrap64 a, ?_, hbel⟩
      have : (Int.toNat (if d / 64 = 0 then 1 else 0)).testBit (d % 64) = false := by
        split
        · have hm : d % 64 ≠ 0 := by omega
          rw [show Int.toNat 1 = 1 from rfl]
          exact Nat.testBit_lt_two_pow (Nat.one_lt_two_pow hm)
        · simp
      rw [this]
  · refine (cur_out hb bb a _ (1 + r + n) w h.lh hA hD (by omega) (by omega) h.c2 h.c6).mono ?_
    rintro e w' ⟨rfl, hbel⟩
    exact ⟨_, rfl, hbel⟩
end Go.Proofs.YbulkuieFmt
