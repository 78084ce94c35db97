/-
  What word, refusal, object, badIndex and GetWord give on a heap of one object (seat b1031aF).
-/
import Derived.Test.YbulkuieFmtBHeap
namespace Go.Proofs.YbulkuieFmt
open Go.RowKit

/-- A package-level sentinel: variable g holds a pointer to an errors.errorString at a, whose text is s. -/
structure Sent (w : World) (g : Nat) (a : Addr) (s : ByteArray) : Prop where
  lg : g < w.heap.size
  la : a.block < w.heap.size
  cg : w.cell? ⟨g, 0, none⟩ = some (.iface 99 (.pointer (some a)))
  ca : w.cell? a = some (.string s)

theorem Sent.mono {w w' : World} {g : Nat} {a : Addr} {s : ByteArray} (h : Sent w g a s) {B : Nat} (hB : w.heap.size ≤ B) (hb : Below B w w') : Sent w' g a s := by
  have z := hb.size
  exact ⟨by have := h.lg; omega, by have := h.la; omega, by rw [hb.cell (p := ⟨g, 0, none⟩) (Nat.lt_of_lt_of_le h.lg hB)]; exact h.cg, by rw [hb.cell (p := a) (Nat.lt_of_lt_of_le h.la hB)]; exact h.ca⟩

theorem below_one (w : World) (o : Obj) : Below w.heap.size w (w.alloc o) := (Below.refl _ _).alloc (Nat.le_refl _) _
theorem below_one_then {w w1 : World} {o : Obj} (h : Below (w.alloc o).heap.size (w.alloc o) w1) : Below w.heap.size w w1 := (below_one w o).trans (h.mono (by simp))

theorem word_in {w : World} {hb ab sb r n : Nat} {hdr : Int} {ws : Nat → Int} (h : BH w hb ab sb r n hdr ws) (i : Nat) (hi : i < n) :
    Calls Ybaf.prog 14 #[.pointer (some ⟨hb, 0, none⟩), .agg #[.int .u64 1970324836974593], .int .i64 i] w fun e w' => e = .returned (.tuple #[.int .i64 ((1 + r + i : Nat) : Int), .bool true]) ∧ Below w.heap.size w w' := by
  have hr := h.hr
  have hn := h.hn
  have eR := h.eR
  have eW := h.eW
  go_enter Ybaf.func14, Ybaf.ntmps14
  go_wp2_with (go_at_call 27; refine (cur_yes (h.mono (Nat.le_refl _) (below_one _ _))).mono ?_; rintro e w1 ⟨rfl, hbel⟩; have hB := below_one_then hbel; have h1 := h.mono (Nat.le_refl _) hB; have c4 := h1.c4; have a0 := h1.a0)
  go_wp2
  go_ret2
  exact ⟨by simp, hB⟩

theorem word_out {w : World} {hb ab sb r n : Nat} {hdr : Int} {ws : Nat → Int} (h : BH w hb ab sb r n hdr ws) (i : Int) (hi0 : -9223372036854775808 ≤ i) (hi1 : i ≤ 9223372036854775807) (hi : i < 0 ∨ (n : Int) ≤ i) :
    Calls Ybaf.prog 14 #[.pointer (some ⟨hb, 0, none⟩), .agg #[.int .u64 1970324836974593], .int .i64 i] w fun e w' => ∃ x : Int, e = .returned (.tuple #[.int .i64 x, .bool false]) ∧ Below w.heap.size w w' := by
  have hr := h.hr
  have hn := h.hn
  have eR := h.eR
  have eW := h.eW
  have hw : decide (IntKind.u64.wrap i < (n : Int)) = false := by rw [IntKind.wrap_u64]; simp; omega
  clear hi
  go_enter Ybaf.func14, Ybaf.ntmps14
  go_wp2_with (go_at_call 27; refine (cur_yes (h.mono (Nat.le_refl _) (below_one _ _))).mono ?_; rintro e w1 ⟨rfl, hbel⟩; have hB := below_one_then hbel; have h1 := h.mono (Nat.le_refl _) hB; have c4 := h1.c4; have a0 := h1.a0)
  go_wp2
  go_ret2
  exact ⟨_, rfl, hB⟩

theorem word_no {w : World} {hb ab sb r n : Nat} {hdr : Int} {ws : Nat → Int} (h : BH w hb ab sb r n hdr ws) (bb : Int) (b0 : 0 ≤ bb) (b1 : bb < 18446744073709551616) (hne : bb ≠ 1970324836974593) (i : Int) :
    Calls Ybaf.prog 14 #[.pointer (some ⟨hb, 0, none⟩), .agg #[.int .u64 bb], .int .i64 i] w fun e w' => ∃ x : Int, e = .returned (.tuple #[.int .i64 x, .bool false]) ∧ Below w.heap.size w w' := by
  go_enter Ybaf.func14, Ybaf.ntmps14
  go_wp2_with (go_at_call 27; refine (cur_no (h.mono (Nat.le_refl _) (below_one _ _)) bb b0 b1 hne).mono ?_; rintro e w1 ⟨x, rfl, hbel⟩; have hB := below_one_then hbel)
  go_ret2
  exact ⟨_, rfl, hB⟩

theorem object_yes {w : World} {hb ab sb r n : Nat} {hdr : Int} {ws : Nat → Int} (h : BH w hb ab sb r n hdr ws) :
    Calls Ybaf.prog 29 #[.pointer (some ⟨hb, 0, none⟩), .agg #[.int .u64 1970324836974593]] w fun e w' => e = .returned (.tuple #[.int .i64 1, .int .u64 hdr, .nilIface]) ∧ Below w.heap.size w w' := by
  have hr := h.hr
  have hn := h.hn
  go_enter Ybaf.func29, Ybaf.ntmps29
  go_wp2_with (go_at_call 27; refine (cur_yes (h.mono (Nat.le_refl _) (below_one _ _))).mono ?_; rintro e w1 ⟨rfl, hbel⟩; have hB := below_one_then hbel; have h1 := h.mono (Nat.le_refl _) hB; have c4 := h1.c4; have a0 := h1.a0)
  go_quiet (fail)
  go_wp2
  go_ret3
  exact ⟨rfl, below_drewN hB _⟩
end Go.Proofs.YbulkuieFmt
