/-
  Verify on a heap that the C laws lay (seat b1031aF).
-/
import Derived.Test.YbulkuieFmtCLists
import Derived.Test.YbulkuieFmtCRoots
import Derived.Test.YbulkuieFmtCBlocks
namespace Go.Proofs.YbulkuieFmt
open Go.RowKit C

/-- What the walks of Verify want of a heap. -/
structure Laid (bs : Nat → Blk) (n : Nat) (rs : Nat → Nat) (m0 : Nat) (w : World) (hb ab sb rb L : Nat) (A sm : Nat → Nat) (nz m mc : Nat) (R : Nat → Nat) (dr : Nat) (foot : Int) (C : Nat → Bool) (a : Addr) (s : ByteArray) : Prop where
  h : CR w hb ab sb rb (pos bs n) L A sm nz m mc R dr foot
  hC : BitsAt w sb L C
  hS : Sent w 4 a s
  hg4 : 4 ≠ sb
  hga : a.block ≠ sb
  hn : n ≤ 1024
  hm : m0 ≤ 1024
  hA : ∀ k, k < n → A (pos bs k) = hdr (bs k)
  hAl : ∀ k, k < n → (bs k).free = true → A (pos bs k + 1) = lnk (chain bs (size (bs k)) k)
  hSl : ∀ k, k < n → (bs k).free = false → ∀ j, j < (bs k).refs % 4 → Names C (pos bs n) (A (pos bs k + 1 + j))
  hsm : ∀ z, z < 64 → sm z = lnk (chain bs z n)
  hnl : nz < 18446744073709551616
  hR : ∀ i, i < m0 → R i = rootOf rs (objs bs n) i
  hN : ∀ i, i < m0 → Names C (pos bs n) (slotOf (objs bs n) (rs i))
  hdr : dr = lnk (dchain rs m0)
  hB : ∀ k, k < n → (bs k).free = false → C (pos bs k) = true
  hCF : ∀ p, F bs n p = true → C p = false

theorem Laid.drewN {bs : Nat → Blk} {n : Nat} {rs : Nat → Nat} {m0 : Nat} {w : World} {hb ab sb rb L : Nat} {A sm : Nat → Nat} {nz m mc : Nat} {R : Nat → Nat} {dr : Nat} {foot : Int} {C : Nat → Bool} {a : Addr} {s : ByteArray}
    (h : Laid bs n rs m0 w hb ab sb rb L A sm nz m mc R dr foot C a s) (d : Nat) : Laid bs n rs m0 (w.drewN d) hb ab sb rb L A sm nz m mc R dr foot C a s :=
  { h with h := h.h.but (But.drewN w d), hC := h.hC.drewN d, hS := h.hS.but (But.drewN w d) h.hg4 h.hga }

theorem reserved_laid {bs : Nat → Blk} {n : Nat} {w : World} {hb ab sb rb L : Nat} {A sm : Nat → Nat} {nz m mc : Nat} {R : Nat → Nat} {dr : Nat} {foot : Int}
    (h : CR w hb ab sb rb (pos bs n) L A sm nz m mc R dr foot) : Calls Ybaf.prog 23 #[.pointer (some ⟨hb, 0, none⟩)] w fun e w' => e = .returned (.int .i64 100) ∧ ∃ n, w' = w.drewN n := by
  have ht := h.ht
  exact reserved_any hb (pos bs n + 16) w (by omega) (by rw [h.c7]; simp) (by rw [h.c87]; simp)

set_option maxRecDepth 100000 in
set_option maxHeartbeats 1000000 in
/-- A sound heap. -/
theorem verify_sound {bs : Nat → Blk} {n : Nat} {rs : Nat → Nat} {m0 : Nat} {w : World} {hb ab sb rb L : Nat} {A sm : Nat → Nat} {nz mc : Nat} {R : Nat → Nat} {dr : Nat} {foot : Int} {C : Nat → Bool} {a : Addr} {s : ByteArray}
    (h : Laid bs n rs m0 w hb ab sb rb L A sm nz m0 mc R dr foot C a s) (hcnt : cnt C (64 * L) = (objs bs n).length) (hfoot : foot = (100 + ((ow bs n : Nat) : Int)) * 8) (hnz : ∀ z, z < 64 → nz.testBit z = decide (lnk (chain bs z n) ≠ 0)) :
    Calls Ybaf.prog 11 #[.pointer (some ⟨hb, 0, none⟩)] w fun e w' => e = .returned .nilIface ∧ But sb w w' ∧ BitsAt w' sb L C := by
  have c9 := h.h.c9
  have c85 := h.h.c85
  have how := ow_le bs n
  have hn := h.hn
  have hpt := h.h.ht
  have hol : (objs bs n).length ≤ 1024 := Nat.le_trans (objs_length_le bs n) h.hn
  have K20 := blocks_any bs n h.h h.hC h.hA h.hB h.hn
  have K21 := fun d => count_any (h.drewN d).hC h.h.hL
  rw [hcnt] at K21
  have K24 := fun d => slots_any bs n (h.drewN d).h (h.drewN d).hC h.hA h.hSl
  have K23 := fun d => reserved_laid (h.drewN d).h
  have K25 := fun d => roots_any rs (objs bs n) m0 false (h.drewN d).h (h.drewN d).hC (h.drewN d).hS h.hR h.hN h.hdr h.hm (.inl ⟨rfl, rfl⟩)
  have K26 := fun d => lists_any bs n false (h.drewN d).h (h.drewN d).hC (h.drewN d).hS h.hg4 h.hga h.hA h.hAl h.hsm (fun z hz => by rw [hnz z hz]; simp) h.hnl h.hCF h.hn
  have hS := fun d => (h.drewN d).hS
  clear h hcnt
  subst hfoot
  generalize (objs bs n).length = ol at *
  generalize ow bs n = ov at *
  generalize fc bs n = fv at *
  generalize pos bs n = top at *
  go_enter Ybaf.func11, Ybaf.ntmps11
  go_wp2_with (first
    | (go_at_call 20; refine K20.mono ?_; rintro e w' ⟨rfl, d, rfl⟩)
    | (go_at_call 21; refine (K21 _).mono ?_; rintro e w' ⟨rfl, rfl⟩)
    | (go_at_call 23; refine (K23 _).mono ?_; rintro e w' ⟨rfl, d2, rfl⟩; simp only [World.drewN_drewN])
    | (go_at_call 24; refine (K24 _).mono ?_; rintro e w' ⟨rfl, d3, rfl⟩; simp only [World.drewN_drewN])
    | (go_at_call 25; refine (K25 _).mono ?_; rintro e w' ⟨-, ⟨-, rfl, rfl⟩ | ⟨h0, -⟩⟩; rotate_left; (exact absurd h0 (by decide)))
    | (go_at_call 26; refine (K26 _).mono ?_; rintro e w' ⟨hbb, ⟨-, rfl, hbt⟩ | ⟨h0, -⟩⟩; rotate_left; (exact absurd h0 (by decide))))
  go_ret
  exact ⟨rfl, (But.drewN _ _).trans hbb, hbt⟩

set_option maxRecDepth 100000 in
set_option maxHeartbeats 1000000 in
/-- A list marked wrongly. -/
theorem verify_lists {bs : Nat → Blk} {n : Nat} {rs : Nat → Nat} {m0 : Nat} {w : World} {hb ab sb rb L : Nat} {A sm : Nat → Nat} {nz mc : Nat} {R : Nat → Nat} {dr : Nat} {foot : Int} {C : Nat → Bool} {a : Addr} {s : ByteArray}
    (h : Laid bs n rs m0 w hb ab sb rb L A sm nz m0 mc R dr foot C a s) (hcnt : cnt C (64 * L) = (objs bs n).length) (hfoot : foot = (100 + ((ow bs n : Nat) : Int)) * 8) (hnz : ∀ z, z < 64 → nz.testBit z = (decide (lnk (chain bs z n) ≠ 0) || decide (z = 0))) :
    Calls Ybaf.prog 11 #[.pointer (some ⟨hb, 0, none⟩)] w fun e w' => But sb w w' ∧ ∃ t x, e = .returned (.iface t x) ∧ ErrAt w' t x a := by
  have c9 := h.h.c9
  have c85 := h.h.c85
  have how := ow_le bs n
  have hn := h.hn
  have hpt := h.h.ht
  have hol : (objs bs n).length ≤ 1024 := Nat.le_trans (objs_length_le bs n) h.hn
  have K20 := blocks_any bs n h.h h.hC h.hA h.hB h.hn
  have K21 := fun d => count_any (h.drewN d).hC h.h.hL
  rw [hcnt] at K21
  have K24 := fun d => slots_any bs n (h.drewN d).h (h.drewN d).hC h.hA h.hSl
  have K23 := fun d => reserved_laid (h.drewN d).h
  have K25 := fun d => roots_any rs (objs bs n) m0 false (h.drewN d).h (h.drewN d).hC (h.drewN d).hS h.hR h.hN h.hdr h.hm (.inl ⟨rfl, rfl⟩)
  have K26 := fun d => lists_any bs n true (h.drewN d).h (h.drewN d).hC (h.drewN d).hS h.hg4 h.hga h.hA h.hAl h.hsm (fun z hz => by rw [hnz z hz]; simp) h.hnl h.hCF h.hn
  have hS := fun d => (h.drewN d).hS
  clear h hcnt
  subst hfoot
  generalize (objs bs n).length = ol at *
  generalize ow bs n = ov at *
  generalize fc bs n = fv at *
  generalize pos bs n = top at *
  go_enter Ybaf.func11, Ybaf.ntmps11
  go_wp2_with (first
    | (go_at_call 20; refine K20.mono ?_; rintro e w' ⟨rfl, d, rfl⟩)
    | (go_at_call 21; refine (K21 _).mono ?_; rintro e w' ⟨rfl, rfl⟩)
    | (go_at_call 23; refine (K23 _).mono ?_; rintro e w' ⟨rfl, d2, rfl⟩; simp only [World.drewN_drewN])
    | (go_at_call 24; refine (K24 _).mono ?_; rintro e w' ⟨rfl, d3, rfl⟩; simp only [World.drewN_drewN])
    | (go_at_call 25; refine (K25 _).mono ?_; rintro e w' ⟨-, ⟨-, rfl, rfl⟩ | ⟨h0, -⟩⟩; rotate_left; (exact absurd h0 (by decide)))
    | (go_at_call 26; refine (K26 _).mono ?_; rintro e w' ⟨hbb, ⟨h0, -⟩ | ⟨-, t, x, rfl, hee⟩⟩; (exact absurd h0 (by decide))))
  go_ret
  exact ⟨(But.drewN _ _).trans hbb, t, x, rfl, hee⟩

set_option maxRecDepth 100000 in
set_option maxHeartbeats 1000000 in
/-- A root that names no object. -/
theorem verify_roots {bs : Nat → Blk} {n : Nat} {rs : Nat → Nat} {m0 : Nat} {w : World} {hb ab sb rb L : Nat} {A sm : Nat → Nat} {nz m mc : Nat} {R : Nat → Nat} {dr : Nat} {foot : Int} {C : Nat → Bool} {a : Addr} {s : ByteArray}
    (h : Laid bs n rs m0 w hb ab sb rb L A sm nz m mc R dr foot C a s) (hcnt : cnt C (64 * L) = (objs bs n).length) (hfoot : foot = (100 + ((ow bs n : Nat) : Int)) * 8) (hmm : m = m0 + 1) (hrt : R m0 = pos bs n + 1) :
    Calls Ybaf.prog 11 #[.pointer (some ⟨hb, 0, none⟩)] w fun e w' => But sb w w' ∧ ∃ t x, e = .returned (.iface t x) ∧ ErrAt w' t x a := by
  have c9 := h.h.c9
  have c85 := h.h.c85
  have how := ow_le bs n
  have hn := h.hn
  have hpt := h.h.ht
  have hol : (objs bs n).length ≤ 1024 := Nat.le_trans (objs_length_le bs n) h.hn
  have K20 := blocks_any bs n h.h h.hC h.hA h.hB h.hn
  have K21 := fun d => count_any (h.drewN d).hC h.h.hL
  rw [hcnt] at K21
  have K24 := fun d => slots_any bs n (h.drewN d).h (h.drewN d).hC h.hA h.hSl
  have K23 := fun d => reserved_laid (h.drewN d).h
  subst hmm
  have K25 := fun d => roots_any rs (objs bs n) m0 true (h.drewN d).h (h.drewN d).hC (h.drewN d).hS h.hR h.hN h.hdr h.hm (.inr ⟨rfl, rfl, hrt⟩)
  have hS := fun d => (h.drewN d).hS
  clear h hcnt
  subst hfoot
  generalize (objs bs n).length = ol at *
  generalize ow bs n = ov at *
  generalize fc bs n = fv at *
  generalize pos bs n = top at *
  go_enter Ybaf.func11, Ybaf.ntmps11
  go_wp2_with (first
    | (go_at_call 20; refine K20.mono ?_; rintro e w' ⟨rfl, d, rfl⟩)
    | (go_at_call 21; refine (K21 _).mono ?_; rintro e w' ⟨rfl, rfl⟩)
    | (go_at_call 23; refine (K23 _).mono ?_; rintro e w' ⟨rfl, d2, rfl⟩; simp only [World.drewN_drewN])
    | (go_at_call 24; refine (K24 _).mono ?_; rintro e w' ⟨rfl, d3, rfl⟩; simp only [World.drewN_drewN])
    | (go_at_call 25; refine (K25 _).mono ?_; rintro e w' ⟨hbb, ⟨h0, -⟩ | ⟨-, t, x, rfl, hee⟩⟩; (exact absurd h0 (by decide))))
  go_ret
  exact ⟨(But.drewN _ _).trans (But.of_below hbb), t, x, rfl, hee⟩

set_option maxRecDepth 100000 in
set_option maxHeartbeats 1000000 in
/-- A start bit that marks no object. -/
theorem verify_count {bs : Nat → Blk} {n : Nat} {rs : Nat → Nat} {m0 : Nat} {w : World} {hb ab sb rb L : Nat} {A sm : Nat → Nat} {nz mc : Nat} {R : Nat → Nat} {dr : Nat} {foot : Int} {C : Nat → Bool} {a : Addr} {s : ByteArray}
    (h : Laid bs n rs m0 w hb ab sb rb L A sm nz m0 mc R dr foot C a s) (hcnt : cnt C (64 * L) = (objs bs n).length + 1) :
    Calls Ybaf.prog 11 #[.pointer (some ⟨hb, 0, none⟩)] w fun e w' => But sb w w' ∧ ∃ t x, e = .returned (.iface t x) ∧ ErrAt w' t x a := by
  have c9 := h.h.c9
  have c85 := h.h.c85
  have how := ow_le bs n
  have hn := h.hn
  have hpt := h.h.ht
  have hol : (objs bs n).length ≤ 1024 := Nat.le_trans (objs_length_le bs n) h.hn
  have K20 := blocks_any bs n h.h h.hC h.hA h.hB h.hn
  have K21 := fun d => count_any (h.drewN d).hC h.h.hL
  rw [hcnt] at K21
  have hS := fun d => (h.drewN d).hS
  clear h hcnt
  generalize (objs bs n).length = ol at *
  generalize ow bs n = ov at *
  generalize fc bs n = fv at *
  generalize pos bs n = top at *
  go_enter Ybaf.func11, Ybaf.ntmps11
  go_wp2_with (first
    | (go_at_call 20; refine K20.mono ?_; rintro e w1 ⟨rfl, d, hw1⟩; have c9b : w1.cell? ⟨hb, 9, none⟩ = some (.slice (some ⟨sb, 0, none⟩) L L) := (by rw [hw1, World.cell?_drewN]; exact c9); have hS1 : Sent w1 4 a s := (by rw [hw1]; exact hS d); have hb1 : But sb w w1 := (by rw [hw1]; exact But.drewN w d); have K21b := K21 d; rw [← hw1] at K21b; have cg1 := hS1.cg; have ca3 := (hS1.mono (Nat.le_refl _) (below_one w1 (.cells #[.iface 99 (.pointer (some a)), .iface 3 (.int .i64 ((ol : Nat) : Int)), .iface 3 (.int .i64 ((ol : Int) + 1))] 20))).ca; clear hw1)
    | (go_at_call 21; refine K21b.mono ?_; rintro e w' ⟨rfl, hw'⟩; rw [hw'])
    | (go_at_call 22; refine (errorf_count _ a s ((ol : Nat) : Int) ((ol : Int) + 1) _ ?_ ?_ ?_ ?_).mono ?_; (exact ca3); (simp [go_sem]); (simp [go_sem]); (simp [go_sem]); rintro e w' ⟨txt, rfl, rfl⟩))
  go_ret
  have := errs_end (below_one w1 (.cells #[.iface 99 (.pointer (some a)), .iface 3 (.int .i64 ((ol : Nat) : Int)), .iface 3 (.int .i64 ((ol : Int) + 1))] 20)) (Nat.le_refl _) txt a (by simp; rfl)
  exact ⟨hb1.trans (But.of_below this.2), _, _, rfl, this.1⟩

set_option maxRecDepth 100000 in
set_option maxHeartbeats 1000000 in
/-- A footprint told wrongly. -/
theorem verify_foot {bs : Nat → Blk} {n : Nat} {rs : Nat → Nat} {m0 : Nat} {w : World} {hb ab sb rb L : Nat} {A sm : Nat → Nat} {nz mc : Nat} {R : Nat → Nat} {dr : Nat} {foot : Int} {C : Nat → Bool} {a : Addr} {s : ByteArray}
    (h : Laid bs n rs m0 w hb ab sb rb L A sm nz m0 mc R dr foot C a s) (hcnt : cnt C (64 * L) = (objs bs n).length) (hfoot : foot = (100 + ((ow bs n : Nat) : Int)) * 8 + 8) :
    Calls Ybaf.prog 11 #[.pointer (some ⟨hb, 0, none⟩)] w fun e w' => But sb w w' ∧ ∃ t x, e = .returned (.iface t x) ∧ ErrAt w' t x a := by
  have c9 := h.h.c9
  have c85 := h.h.c85
  have how := ow_le bs n
  have hn := h.hn
  have hpt := h.h.ht
  have hol : (objs bs n).length ≤ 1024 := Nat.le_trans (objs_length_le bs n) h.hn
  have K20 := blocks_any bs n h.h h.hC h.hA h.hB h.hn
  have K21 := fun d => count_any (h.drewN d).hC h.h.hL
  rw [hcnt] at K21
  have K23 := fun d => reserved_laid (h.drewN d).h
  have hS := fun d => (h.drewN d).hS
  clear h hcnt
  subst hfoot
  generalize (objs bs n).length = ol at *
  generalize ow bs n = ov at *
  generalize fc bs n = fv at *
  generalize pos bs n = top at *
  go_enter Ybaf.func11, Ybaf.ntmps11
  go_wp2_with (first
    | (go_at_call 20; refine K20.mono ?_; rintro e w' ⟨rfl, d, rfl⟩)
    | (go_at_call 21; refine (K21 _).mono ?_; rintro e w' ⟨rfl, rfl⟩)
    | (go_at_call 23; refine (K23 _).mono ?_; rintro e w' ⟨rfl, d2, rfl⟩; simp only [World.drewN_drewN]))
  obtain ⟨w1, hw1⟩ : ∃ w1, w1 = w.drewN (d + d2) := ⟨_, rfl⟩
  rw [← hw1]
  have c85b : w1.cell? ⟨hb, 85, none⟩ = some (.int .i64 ((100 + ((ov : Nat) : Int)) * 8 + 8)) := by rw [hw1, World.cell?_drewN]; exact c85
  have hS1 : Sent w1 4 a s := by rw [hw1]; exact hS _
  have hb1 : But sb w w1 := by rw [hw1]; exact But.drewN w _
  have cg1 := hS1.cg
  have hbl : Below w1.heap.size w1 (w1.drew.alloc (.cells #[.iface 99 (.pointer (some a)), .iface 2 (.int .i64 ((100 + ((ov : Nat) : Int)) * 8 + 8)), .iface 2 (.int .i64 ((100 + ((ov : Nat) : Int)) * 8))] 20)) := (Below.refl _ w1).drew.alloc (by simp) _
  have ca3 := (hS1.mono (Nat.le_refl _) hbl).ca
  clear hw1
  go_region_with (go_at_call 22; refine (errorf_foot _ a s ((100 + ((ov : Nat) : Int)) * 8 + 8) ((100 + ((ov : Nat) : Int)) * 8) _ ?_ ?_ ?_ ?_).mono ?_; (exact ca3); (simp [go_sem]); (simp [go_sem]); (simp [go_sem]); rintro e w' ⟨txt, rfl, rfl⟩)
  all_goals go_wp2_with fail
  all_goals go_ret
  all_goals
    have := errs_end hbl (Nat.le_refl _) txt a (by simp; rfl)
    exact ⟨hb1.trans (But.of_below this.2), _, _, rfl, this.1⟩

end Go.Proofs.YbulkuieFmt
