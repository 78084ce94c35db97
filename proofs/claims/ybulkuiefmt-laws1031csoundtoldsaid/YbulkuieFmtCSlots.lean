/-
  isObject and verifySlots on a heap that the C laws lay (seat b1031aF).
-/
import Derived.Test.YbulkuieFmtCHeap
namespace Go.Proofs.YbulkuieFmt
open Go.RowKit C
/-- What a slot or a root holds: 0, or one more than the place of an object's start. -/
def Names (C : Nat → Bool) (top v : Nat) : Prop := v = 0 ∨ ∃ p, v = p + 1 ∧ p < top ∧ C p = true

theorem isObj_yes {w : World} {hb ab sb rb top L : Nat} {A sm : Nat → Nat} {nz m mc : Nat} {R : Nat → Nat} {dr : Nat} {foot : Int} {C : Nat → Bool}
    (h : CR w hb ab sb rb top L A sm nz m mc R dr foot) (hC : BitsAt w sb L C) (v : Nat) (hv : Names C top v) :
    Calls Ybaf.prog 35 #[.pointer (some ⟨hb, 0, none⟩), .int .u64 (v : Int)] w fun e w' => e = .returned (.bool true) ∧ w' = w := by
  have ht := h.ht
  have c6 := h.c6
  have c9 := h.c9
  rcases hv with rfl | ⟨p, rfl, hp, hCp⟩
  · go_enter Ybaf.func35, Ybaf.ntmps35
    go_wp2
    go_ret
    exact ⟨rfl, rfl⟩
  · have HH := has_bits hC (k := p) (by have := h.hLt; omega) h.hL
    rw [hCp] at HH
    have hz : (((p + 1 : Nat) : Int) == 0) = false := by simp; omega
    clear h hCp
    go_enter Ybaf.func35, Ybaf.ntmps35
    go_wp2_with (go_at_call 31; refine HH.mono ?_; rintro e w' ⟨rfl, rfl⟩)
    go_ret
    exact ⟨rfl, rfl⟩

theorem isObj_no {w : World} {hb ab sb rb top L : Nat} {A sm : Nat → Nat} {nz m mc : Nat} {R : Nat → Nat} {dr : Nat} {foot : Int}
    (h : CR w hb ab sb rb top L A sm nz m mc R dr foot) :
    Calls Ybaf.prog 35 #[.pointer (some ⟨hb, 0, none⟩), .int .u64 ((top + 1 : Nat) : Int)] w fun e w' => e = .returned (.bool false) ∧ w' = w := by
  have ht := h.ht
  have c6 := h.c6
  have hz : (((top + 1 : Nat) : Int) == 0) = false := by simp; omega
  have hz2 : decide (((top + 1 : Nat) : Int) ≤ (top : Int)) = false := by simp; omega
  clear h
  go_enter Ybaf.func35, Ybaf.ntmps35
  go_wp2_with fail
  go_ret
  exact ⟨rfl, rfl⟩

theorem hr_any (b : Blk) (hf : b.free = false) (w : World) : Calls Ybaf.prog 28 #[.int .u64 ((hdr b : Nat) : Int)] w fun e w' => e = .returned (.int .i64 ((b.refs % 4 : Nat) : Int)) ∧ w' = w := by
  have h2 := hdr_refs b hf
  have hx : b.refs % 4 ≤ 3 := by omega
  generalize b.refs % 4 = r at *
  generalize hdr b = hh at *
  go_enter Ybaf.func28, Ybaf.ntmps28
  go_wp2
  go_ret
  exact ⟨rfl, rfl⟩

set_option maxRecDepth 100000 in
set_option maxHeartbeats 1000000 in
theorem slots_any (bs : Nat → Blk) (n : Nat) {w : World} {hb ab sb rb L : Nat} {A sm : Nat → Nat} {nz m mc : Nat} {R : Nat → Nat} {dr : Nat} {foot : Int} {C : Nat → Bool}
    (h : CR w hb ab sb rb (pos bs n) L A sm nz m mc R dr foot) (hC : BitsAt w sb L C) (hA : ∀ k, k < n → A (pos bs k) = hdr (bs k))
    (hS : ∀ k, k < n → (bs k).free = false → ∀ j, j < (bs k).refs % 4 → Names C (pos bs n) (A (pos bs k + 1 + j))) :
    Calls Ybaf.prog 24 #[.pointer (some ⟨hb, 0, none⟩)] w fun e w' => e = .returned .nilIface ∧ ∃ d, w' = w.drewN d := by
  have ht := h.ht
  have hL := h.hL
  have hLt := h.hLt
  have c4 := h.c4
  have c6 := h.c6
  obtain ⟨top, htop⟩ : ∃ top, top = pos bs n := ⟨_, rfl⟩
  rw [← htop] at c4 c6 ht hLt
  have HTOP : Hid (top = pos bs n) := htop
  clear htop
  go_enter Ybaf.func24, Ybaf.ntmps24
  go_wp2_with fail
  go_loopg [3] n (fun g at_ wr => ∃ k p d : Nat, k + g = n ∧ at_ = .int .i64 (p : Int) ∧ wr = w.drewN d ∧ p = pos bs k)
  case atStart => exact ⟨0, 0, 0, by omega, rfl, rfl, rfl⟩
  case round =>
    obtain ⟨k, p, d, hkg, rfl, hwd, hE⟩ := hrel
    obtain ⟨g0, hg0⟩ : ∃ g0, g0 = gk := ⟨_, rfl⟩
    rw [← hg0] at hkg
    have HE : Hid (p = pos bs k) := hE
    have HK : Hid (k + g0 = n) := hkg
    have HG : Hid (g0 = gk) := hg0
    clear hg0
    have HD : Hid (wr = w.drewN d) := hwd
    have e0 : ∀ a, wr.cell? a = w.cell? a := fun a => by rw [hwd, World.cell?_drewN]
    have c4' := (e0 _).trans c4
    have c6' := (e0 _).trans c6
    have hC' : BitsAt wr sb L C := by rw [hwd]; exact hC.drewN d
    have hCR : CR wr hb ab sb rb (pos bs n) L A sm nz m mc R dr foot := by rw [hwd]; exact h.but (But.drewN w d)
    clear hE hkg hwd e0
    by_cases hk : k < n
    · have hz1 := size_ge (bs k)
      have hz2 := size_le (bs k)
      have hpz : p + size (bs k) ≤ top := by have h1 := pos_mono bs (show k + 1 ≤ n by omega); have := HTOP.out; have := HE.out; simp only [pos] at h1; omega
      have ca := hCR.ca (pos bs k) (by have := HE.out; have := HTOP.out; omega)
      rw [hA k hk, ← HE.out] at ca
      have hF := hdr_free (bs k)
      have BL := fun W => blockLen_any (bs k) W
      have HRR := fun hf W => hr_any (bs k) hf W
      have N1 : Hid (pos bs (k + 1) = p + size (bs k)) := by show _ = _; rw [HE.out]; rfl
      have hSz := size_obj (bs k)
      generalize hdr (bs k) = hh at *
      cases hf : (bs k).free with
      | true =>
        rw [hf] at hF
        clear hSz HRR
        generalize size (bs k) = z at *
        go_wp2_with (go_at_call 30; refine (BL _).mono ?_; rintro e w' ⟨rfl, hw'⟩; rw [hw'])
        go_roundg (gk - 1)
        case measure => have := HK.out; have := HG.out; omega
        case rel => exact ⟨k + 1, p + z, d, by have := HK.out; have := HG.out; omega, by go_num, HD.out, N1.out.symm⟩
      | false =>
        rw [hf] at hF
        have hSz' := hSz hf
        have hr3 : (bs k).refs % 4 ≤ 3 := by omega
        have HRR' := HRR hf
        have hSl : Hid (∀ j, j < (bs k).refs % 4 → Names C (pos bs n) (A (p + 1 + j))) := fun j hj => by rw [HE.out]; exact hS k hk hf j hj
        clear hSz HRR
        generalize (bs k).refs % 4 = r at *
        have hrz : p + 1 + r ≤ top := by omega
        generalize size (bs k) = z at *
        clear hSz'
        have hne : ¬ top = p + 1 := by omega
        have hsub : p + 1 + r - (p + 1) = r := by omega
        have hd1 : decide ((p : Int) < (top : Int)) = true := by simp; omega
        have hd2 : decide (p < top) = true := by simp; omega
        have w1 : IntKind.i64.wrap ((p : Int) + 1) = ((p + 1 : Nat) : Int) := by rw [IntKind.wrap_i64]; omega
        have w2 : IntKind.i64.wrap (((p + 1 : Nat) : Int) + (r : Int)) = ((p + 1 + r : Nat) : Int) := by rw [IntKind.wrap_i64]; omega
        go_wp2_with fail
        go_quiet ((go_at_call 28; exact Calls.quiet_of_same (HRR' _)))
        go_wp2_with fail
        rw [hsub]
        go_loopg [46] r (fun g i wi => ∃ j : Nat, j + g = r ∧ i = .int .i64 (j : Int) ∧ wi = wr.drewN nq)
        case atStart => exact ⟨0, by omega, rfl, rfl⟩
        case round =>
          obtain ⟨j, hjg, rfl, rfl⟩ := hrel
          have HJ : Hid (j + gk = r) := hjg
          clear hjg
          by_cases hj : j < r
          · have HOB := isObj_yes (hCR.but (But.drewN wr nq)) (hC'.drewN nq) (A (p + 1 + j)) (hSl.out j hj)
            have cj := hCR.ca (p + 1 + j) (by have := HTOP.out; omega)
            generalize A (p + 1 + j) = v at *
            go_wp2_with (go_at_call 35; refine HOB.mono ?_; rintro e w' ⟨rfl, rfl⟩)
            go_roundg (gk - 1)
            case measure => have := HJ.out; omega
            case rel => exact ⟨j + 1, by have := HJ.out; omega, by go_num, rfl⟩
          · have hjr : j = r := by have := HJ.out; omega
            subst hjr
            go_wp2_with (go_at_call 30; refine (BL _).mono ?_; rintro e w' ⟨rfl, rfl⟩)
            go_roundg (g0 - 1)
            case measure => have := HK.out; have := HG.out; omega
            case rel => exact ⟨k + 1, p + z, d + nq, by have := HK.out; have := HG.out; omega, by go_num, by rw [HD.out, World.drewN_drewN], N1.out.symm⟩
    · have hkn : k = n := by have := HK.out; omega
      have hpt : p = top := by rw [HE.out, HTOP.out, hkn]
      subst hpt
      go_wp2_with fail
      go_ret
      exact ⟨rfl, d, HD.out⟩
end Go.Proofs.YbulkuieFmt
