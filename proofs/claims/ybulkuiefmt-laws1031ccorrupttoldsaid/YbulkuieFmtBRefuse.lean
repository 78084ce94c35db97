/-
  What refusal, object, badIndex and GetWord give where GetWord fails (seat b1031aF): an error that is the sentinel, bare or wrapped once.
-/
import Derived.Test.YbulkuieFmtBRead
import Derived.Test.YbulkuieFmtIs
namespace Go.Proofs.YbulkuieFmt
open Go.RowKit

/-- The interface value (t, x) is the sentinel at a itself, or a *fmt.wrapError that wraps it. -/
def ErrAt (w : World) (t : TypeId) (x : Value) (a : Addr) : Prop :=
  (t = 99 ∧ x = .pointer (some a)) ∨ ∃ k : Nat, t = 93 ∧ x = .pointer (some ⟨k, 0, none⟩) ∧ k < w.heap.size ∧ w.cell? ⟨k, 1, none⟩ = some (.iface 99 (.pointer (some a)))

theorem ErrAt.mono {w w' : World} {t : TypeId} {x : Value} {a : Addr} (h : ErrAt w t x a) (hb : Below w.heap.size w w') : ErrAt w' t x a := by
  rcases h with h | ⟨k, h1, h2, h3, h4⟩
  · exact .inl h
  · exact .inr ⟨k, h1, h2, Nat.lt_of_lt_of_le h3 hb.size, by rw [hb.cell (p := ⟨k, 1, none⟩) h3]; exact h4⟩

/-- errors.Is of such a value and the sentinel. -/
theorem is_err {w : World} {t : TypeId} {x : Value} {a : Addr} (h : ErrAt w t x a) :
    Calls Ybaf.prog 9 #[.iface t x, .iface 99 (.pointer (some a))] w fun e w' => e = .returned (.bool true) ∧ w' = w := by
  rcases h with ⟨rfl, rfl⟩ | ⟨k, rfl, rfl, _, h4⟩
  · exact is_same a w
  · exact is_wrap_same k 0 a w h4

theorem errs_end {B k : Nat} {w W : World} (hB : Below B w W) (hs : B ≤ w.heap.size) (txt : ByteArray) (a : Addr) (hk : W.heap.size = k) :
    ErrAt ((W.alloc (.cells #[.string txt, .iface 99 (.pointer (some a))] 129)).drew) 93 (.pointer (some ⟨k, 0, none⟩)) a ∧
    Below B w ((W.alloc (.cells #[.string txt, .iface 99 (.pointer (some a))] 129)).drew) :=
  ⟨.inr ⟨k, rfl, rfl, by subst hk; simp, by subst hk; simp [go_sem]⟩, (hB.alloc (Nat.le_trans hs hB.size) _).drew⟩

/-- refusal at the nil reference. -/
theorem refusal_nil (hb : Nat) (a : Addr) (s : ByteArray) (w : World) (hs : Sent w 1 a s) :
    Calls Ybaf.prog 39 #[.pointer (some ⟨hb, 0, none⟩), .agg #[.int .u64 0]] w fun e w' => ∃ t x, e = .returned (.iface t x) ∧ ErrAt w' t x a ∧ Below w.heap.size w w' := by
  have cg := (hs.mono (Nat.le_refl _) (below_one w (.cells #[.int .u64 0] 26))).cg
  go_enter Ybaf.func39, Ybaf.ntmps39
  go_wp2
  go_ret
  exact ⟨_, _, rfl, .inl ⟨rfl, rfl⟩, below_one _ _⟩

theorem refusal_heap {w : World} {hb ab sb r n : Nat} {hdr : Int} {ws : Nat → Int} (h : BH w hb ab sb r n hdr ws) (a : Addr) (s : ByteArray) (hs : Sent w 2 a s) (bb : Int)
    (hz : (bb == 0) = false) (h7 : (bb / 281474976710656 != 7) = true) :
    Calls Ybaf.prog 39 #[.pointer (some ⟨hb, 0, none⟩), .agg #[.int .u64 bb]] w fun e w' => ∃ t x, e = .returned (.iface t x) ∧ ErrAt w' t x a ∧ Below w.heap.size w w' := by
  have hB := below_one w (.cells #[.int .u64 bb] 26)
  have cg := (hs.mono (Nat.le_refl _) hB).cg
  have c1 := (h.mono (Nat.le_refl _) hB).c1
  have hB2 := fun m => (below_drewN hB m).alloc (by simp) (.cells #[.iface 99 (.pointer (some a)), .iface 24 (.int .u64 bb)] 20)
  have ca2 := fun m => (hs.mono (Nat.le_refl _) (hB2 m)).ca
  go_enter Ybaf.func39, Ybaf.ntmps39
  go_wp2
  go_quiet (fail)
  go_wp2_with (go_at_call 22; refine (errorf_heap _ a s bb _ ?_ ?_ ?_).mono ?_; exact ca2 _; simp [go_sem]; simp [go_sem]; rintro e w1 ⟨txt, rfl, rfl⟩)
  go_ret
  exact ⟨_, _, rfl, errs_end (hB2 _) (Nat.le_refl _) _ a (by simp)⟩

theorem refusal_stale {w : World} {hb ab sb r n : Nat} {hdr : Int} {ws : Nat → Int} (h : BH w hb ab sb r n hdr ws) (a : Addr) (s : ByteArray) (hs : Sent w 3 a s) (bb : Int)
    (hz : (bb == 0) = false) (h7 : (bb / 281474976710656 != 7) = false) (h16 : (bb / 65536 != 30064771072) = true) :
    Calls Ybaf.prog 39 #[.pointer (some ⟨hb, 0, none⟩), .agg #[.int .u64 bb]] w fun e w' => ∃ t x, e = .returned (.iface t x) ∧ ErrAt w' t x a ∧ Below w.heap.size w w' := by
  have hB := below_one w (.cells #[.int .u64 bb] 26)
  have cg := (hs.mono (Nat.le_refl _) hB).cg
  have h1 := h.mono (Nat.le_refl _) hB
  have c1 := h1.c1
  have c2 := h1.c2
  have c3 := h1.c3
  clear h1
  have hB2 := fun m => (below_drewN hB m).alloc (by simp) (.cells #[.iface 99 (.pointer (some a)), .iface 24 (.int .u64 bb)] 20)
  have ca2 := fun m => (hs.mono (Nat.le_refl _) (hB2 m)).ca
  go_enter Ybaf.func39, Ybaf.ntmps39
  go_wp2
  go_quiet (fail)
  go_wp2
  go_quiet (fail)
  go_wp2_with (go_at_call 22; refine (errorf_stale _ a s bb _ ?_ ?_ ?_).mono ?_; exact ca2 _; simp [go_sem]; simp [go_sem]; rintro e w1 ⟨txt, rfl, rfl⟩)
  go_ret
  exact ⟨_, _, rfl, errs_end (hB2 _) (Nat.le_refl _) _ a (by simp)⟩

theorem refusal_none {w : World} {hb ab sb r n : Nat} {hdr : Int} {ws : Nat → Int} (h : BH w hb ab sb r n hdr ws) (a : Addr) (s : ByteArray) (hs : Sent w 2 a s) (bb : Int)
    (hz : (bb == 0) = false) (h7 : (bb / 281474976710656 != 7) = false) (h16 : (bb / 65536 != 30064771072) = false) :
    Calls Ybaf.prog 39 #[.pointer (some ⟨hb, 0, none⟩), .agg #[.int .u64 bb]] w fun e w' => ∃ t x, e = .returned (.iface t x) ∧ ErrAt w' t x a ∧ Below w.heap.size w w' := by
  have hB := below_one w (.cells #[.int .u64 bb] 26)
  have cg := (hs.mono (Nat.le_refl _) hB).cg
  have h1 := h.mono (Nat.le_refl _) hB
  have c1 := h1.c1
  have c2 := h1.c2
  have c3 := h1.c3
  clear h1
  have hB2 := fun m => (below_drewN hB m).alloc (by simp) (.cells #[.iface 99 (.pointer (some a)), .iface 24 (.int .u64 bb)] 20)
  have ca2 := fun m => (hs.mono (Nat.le_refl _) (hB2 m)).ca
  go_enter Ybaf.func39, Ybaf.ntmps39
  go_wp2
  go_quiet (fail)
  go_wp2
  go_quiet (fail)
  go_wp2_with (go_at_call 22; refine (errorf_none _ a s bb _ ?_ ?_ ?_).mono ?_; exact ca2 _; simp [go_sem]; simp [go_sem]; rintro e w1 ⟨txt, rfl, rfl⟩)
  go_ret
  exact ⟨_, _, rfl, errs_end (hB2 _) (Nat.le_refl _) _ a (by simp)⟩

/-- 'In every later world refusal gives an error that is the sentinel at a.' -/
def Refuses (w : World) (hb : Nat) (bb : Int) (a : Addr) : Prop :=
  ∀ W, Below w.heap.size w W → Calls Ybaf.prog 39 #[.pointer (some ⟨hb, 0, none⟩), .agg #[.int .u64 bb]] W fun e w' => ∃ t x, e = .returned (.iface t x) ∧ ErrAt w' t x a ∧ Below W.heap.size W w'

theorem object_no {w : World} {hb ab sb r n : Nat} {hdr : Int} {ws : Nat → Int} (h : BH w hb ab sb r n hdr ws) (bb : Int) (b0 : 0 ≤ bb) (b1 : bb < 18446744073709551616) (hne : bb ≠ 1970324836974593) (a : Addr) (hR : Refuses w hb bb a) :
    Calls Ybaf.prog 29 #[.pointer (some ⟨hb, 0, none⟩), .agg #[.int .u64 bb]] w fun e w' => ∃ t x, e = .returned (.tuple #[.int .i64 0, .int .u64 0, .iface t x]) ∧ ErrAt w' t x a ∧ Below w.heap.size w w' := by
  go_enter Ybaf.func29, Ybaf.ntmps29
  go_wp2_with (first
    | (go_at_call 27; refine (cur_no (h.mono (Nat.le_refl _) (below_one _ _)) bb b0 b1 hne).mono ?_; rintro e w1 ⟨x, rfl, hbel⟩; have hB := below_one_then hbel; have cR := (hbel.cell (p := ⟨w.heap.size, 0, none⟩) (by simp)).trans (show _ = some (Value.int .u64 bb) by simp [go_sem]))
    | (go_at_call 39; refine (hR _ (by assumption)).mono ?_; rintro e w2 ⟨t, x, rfl, hE, hbel2⟩))
  go_ret3
  exact ⟨_, _, rfl, hE, hB.trans (hbel2.mono hB.size)⟩

theorem bad_no {w : World} {hb ab sb r n : Nat} {hdr : Int} {ws : Nat → Int} (h : BH w hb ab sb r n hdr ws) (bb : Int) (b0 : 0 ≤ bb) (b1 : bb < 18446744073709551616) (hne : bb ≠ 1970324836974593) (a : Addr) (hR : Refuses w hb bb a) (i : Int) (s f : Value) :
    Calls Ybaf.prog 15 #[.pointer (some ⟨hb, 0, none⟩), .agg #[.int .u64 bb], .int .i64 i, s, f] w fun e w' => ∃ t x, e = .returned (.iface t x) ∧ ErrAt w' t x a ∧ Below w.heap.size w w' := by
  have hR1 : ∀ o, Refuses (w.alloc o) hb bb a := fun o W hW => hR W (below_one_then hW)
  go_enter Ybaf.func15, Ybaf.ntmps15
  go_wp2_with (go_at_call 29; refine (object_no (h.mono (Nat.le_refl _) (below_one _ _)) bb b0 b1 hne a (hR1 _)).mono ?_; rintro e w1 ⟨t, x, rfl, hE, hbel⟩)
  go_ret
  exact ⟨_, _, rfl, hE, below_one_then hbel⟩
end Go.Proofs.YbulkuieFmt
