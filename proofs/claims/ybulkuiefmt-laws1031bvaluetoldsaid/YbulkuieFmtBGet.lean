/-
  GetWord on a heap of one object (seat b1031aF): the word; ErrIndex; the refusal's sentinel.
-/
import Derived.Test.YbulkuieFmtBRefuse
namespace Go.Proofs.YbulkuieFmt
open Go.RowKit

theorem get_in {w : World} {hb ab sb r n : Nat} {hdr : Int} {ws : Nat → Int} (h : BH w hb ab sb r n hdr ws) (i : Nat) (hi : i < n) :
    Calls Ybaf.prog 8 #[.pointer (some ⟨hb, 0, none⟩), .agg #[.int .u64 1970324836974593], .int .i64 i] w fun e w' => e = .returned (.tuple #[.int .u64 (ws i), .nilIface]) ∧ Below w.heap.size w w' := by
  have hr := h.hr
  have hn := h.hn
  go_enter Ybaf.func8, Ybaf.ntmps8
  go_wp2_with (go_at_call 14; refine (word_in (h.mono (Nat.le_refl _) (below_one _ _)) i hi).mono ?_; rintro e w1 ⟨rfl, hbel⟩; have hB := below_one_then hbel; have h1 := h.mono (Nat.le_refl _) hB; have c4 := h1.c4; have aw := h1.aw i hi; clear h1)
  go_ret2
  exact ⟨rfl, hB⟩

theorem hw_any (hdr : Int) (n : Nat) (w : World) (eW : bits .and .u64 hdr 2147483647 = (n : Int)) (hn : n ≤ 1024) : Calls Ybaf.prog 16 #[.int .u64 hdr] w fun e w' => e = .returned (.int .i64 n) ∧ w' = w := by
  go_enter Ybaf.func16, Ybaf.ntmps16
  go_wp2
  go_ret
  exact ⟨rfl, rfl⟩

theorem bad_idx {w : World} {hb ab sb r n : Nat} {hdr : Int} {ws : Nat → Int} (h : BH w hb ab sb r n hdr ws) (a : Addr) (s : ByteArray) (hs : Sent w 0 a s) (i : Int) :
    Calls Ybaf.prog 15 #[.pointer (some ⟨hb, 0, none⟩), .agg #[.int .u64 1970324836974593], .int .i64 i, .string ⟨#[119, 111, 114, 100]⟩, .func (.func 16) #[] #[]] w fun e w' => ∃ t x, e = .returned (.iface t x) ∧ ErrAt w' t x a ∧ Below w.heap.size w w' := by
  have eW := h.eW
  have hn := h.hn
  have HH := fun W => hw_any hdr n W eW hn
  clear eW
  go_enter Ybaf.func15, Ybaf.ntmps15
  go_wp2_with (go_at_call 29; refine (object_yes (h.mono (Nat.le_refl _) (below_one _ _))).mono ?_; rintro e w1 ⟨rfl, hbel⟩; have hB := below_one_then hbel; have cg := (hs.mono (Nat.le_refl _) hB).cg)
  have hB2 := hB.drew.alloc hB.size (.cells #[.iface 99 (.pointer (some a)), .iface 9 (.string ⟨#[119, 111, 114, 100]⟩), .iface 3 (.int .i64 i), .iface 3 (.int .i64 n)] 20)
  have ca2 := (hs.mono (Nat.le_refl _) hB2).ca
  go_region_with (first
    | (go_at_call 16; refine (HH _).mono ?_; rintro e w' ⟨rfl, rfl⟩)
    | (go_at_call 22; refine (errorf_idx _ a s ⟨#[119, 111, 114, 100]⟩ i n _ ?_ ?_ ?_ ?_ ?_).mono ?_; exact ca2; simp [go_sem]; simp [go_sem]; simp [go_sem]; simp [go_sem]; rintro e w1 ⟨txt, rfl, rfl⟩))
  all_goals (try go_wp2)
  all_goals (go_ret; exact ⟨_, _, rfl, errs_end hB2 (Nat.le_refl _) _ a (by simp)⟩)

theorem get_out {w : World} {hb ab sb r n : Nat} {hdr : Int} {ws : Nat → Int} (h : BH w hb ab sb r n hdr ws) (i : Int) (hi0 : -9223372036854775808 ≤ i) (hi1 : i ≤ 9223372036854775807) (hi : i < 0 ∨ (n : Int) ≤ i) (a : Addr) (s : ByteArray) (hs : Sent w 0 a s) :
    Calls Ybaf.prog 8 #[.pointer (some ⟨hb, 0, none⟩), .agg #[.int .u64 1970324836974593], .int .i64 i] w fun e w' => ∃ t x, e = .returned (.tuple #[.int .u64 0, .iface t x]) ∧ ErrAt w' t x a ∧ Below w.heap.size w w' := by
  have HI : Hid (i < 0 ∨ (n : Int) ≤ i) := hi
  clear hi
  go_enter Ybaf.func8, Ybaf.ntmps8
  go_wp2_with (first
    | (go_at_call 14; refine (word_out (h.mono (Nat.le_refl _) (below_one _ _)) i hi0 hi1 HI.out).mono ?_; rintro e w1 ⟨x, rfl, hbel⟩; have hB := below_one_then hbel; have cR := (hbel.cell (p := ⟨w.heap.size, 0, none⟩) (by simp)).trans (show _ = some (Value.int .u64 1970324836974593) by simp [go_sem]))
    | (go_at_call 15; refine (bad_idx (h.mono (Nat.le_refl _) (by assumption)) a s (hs.mono (Nat.le_refl _) (by assumption)) i).mono ?_; rintro e w2 ⟨t, x, rfl, hE, hbel2⟩))
  go_ret2
  exact ⟨_, _, rfl, hE, hB.trans (hbel2.mono hB.size)⟩

theorem get_no {w : World} {hb ab sb r n : Nat} {hdr : Int} {ws : Nat → Int} (h : BH w hb ab sb r n hdr ws) (bb : Int) (b0 : 0 ≤ bb) (b1 : bb < 18446744073709551616) (hne : bb ≠ 1970324836974593) (a : Addr) (hR : Refuses w hb bb a) (i : Int) :
    Calls Ybaf.prog 8 #[.pointer (some ⟨hb, 0, none⟩), .agg #[.int .u64 bb], .int .i64 i] w fun e w' => ∃ t x, e = .returned (.tuple #[.int .u64 0, .iface t x]) ∧ ErrAt w' t x a ∧ Below w.heap.size w w' := by
  have hR1 : ∀ W, Below w.heap.size w W → Refuses W hb bb a := fun W hW W' hW' => hR W' (hW.trans (hW'.mono hW.size))
  go_enter Ybaf.func8, Ybaf.ntmps8
  go_wp2_with (first
    | (go_at_call 14; refine (word_no (h.mono (Nat.le_refl _) (below_one _ _)) bb b0 b1 hne i).mono ?_; rintro e w1 ⟨x, rfl, hbel⟩; have hB := below_one_then hbel; have cR := (hbel.cell (p := ⟨w.heap.size, 0, none⟩) (by simp)).trans (show _ = some (Value.int .u64 bb) by simp [go_sem]))
    | (go_at_call 15; refine (bad_no (h.mono (Nat.le_refl _) (by assumption)) bb b0 b1 hne a (hR1 _ (by assumption)) i _ _).mono ?_; rintro e w2 ⟨t, x, rfl, hE, hbel2⟩))
  go_ret2
  exact ⟨_, _, rfl, hE, hB.trans (hbel2.mono hB.size)⟩
end Go.Proofs.YbulkuieFmt
