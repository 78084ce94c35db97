/-
  The deferred closure of verifyFreeLists on a heap that the C laws lay (seat b1031aF).
-/
import Derived.Test.YbulkuieFmtCHeap
import Derived.Defers
namespace Go.Proofs.YbulkuieFmt
open Go.RowKit C

set_option maxRecDepth 100000 in
set_option maxHeartbeats 1000000 in
/-- The deferred closure of verifyFreeLists: every free block's bit is cleared. -/
theorem clear_deferred (bs : Nat → Blk) (n : Nat) {w : World} {hb ab sb rb L xb : Nat} {A sm : Nat → Nat} {nz m mc : Nat} {R : Nat → Nat} {dr : Nat} {foot : Int} {C : Nat → Bool} (u : FrameMode)
    (h : CR w hb ab sb rb (pos bs n) L A sm nz m mc R dr foot) (hC : BitsAt w sb L C) (hA : ∀ k, k < n → A (pos bs k) = hdr (bs k)) (hx : w.cell? ⟨xb, 0, none⟩ = some (.pointer (some ⟨hb, 0, none⟩))) (hxl : xb < w.heap.size) (hxn : xb ≠ sb) :
    CallsD Ybaf.prog 36 #[.pointer (some ⟨xb, 0, none⟩)] u w fun e u' w' => u' = u ∧ (e = .returned (.tuple #[]) ∧ But sb w w' ∧ BitsAt w' sb L (fun p => C p && !F bs n p)) := by
  have ht := h.ht
  have hL := h.hL
  have hLt := h.hLt
  obtain ⟨top, htop⟩ : ∃ top, top = pos bs n := ⟨_, rfl⟩
  rw [← htop] at ht hLt
  have HTOP : Hid (top = pos bs n) := htop
  clear htop
  go_enter_d Ybaf.func36, Ybaf.ntmps36
  go_wp2_with fail
  go_loopg [1] n (fun g at_ wr => ∃ k p : Nat, at_ = .int .i64 (p : Int) ∧ (k + g = n ∧ p = pos bs k ∧ But sb w wr ∧ BitsAt wr sb L (fun q => C q && !F bs k q)))
  case atStart => exact ⟨0, 0, rfl, by omega, rfl, But.refl _ _, hC.congr (fun q _ => by simp [F])⟩
  case round =>
    obtain ⟨k, p, rfl, hE⟩ := hrel
    have HE : Hid _ := hE
    clear hE
    have hCR := h.but HE.out.2.2.1
    have c4 := hCR.c4
    have c6 := hCR.c6
    have c9 := hCR.c9
    rw [← HTOP.out] at c4 c6
    have cx := (HE.out.2.2.1.cell (p := ⟨xb, 0, none⟩) hxl hxn).trans hx
    by_cases hk : k < n
    · have hz1 := size_ge (bs k)
      have hz2 := size_le (bs k)
      have hpz : p + size (bs k) ≤ top := by have h1 := pos_mono bs (show k + 1 ≤ n by omega); have := HTOP.out; have := HE.out.2.1; simp only [pos] at h1; omega
      have ca := hCR.ca (pos bs k) (by have := HE.out.2.1; have := HTOP.out; omega)
      rw [hA k hk, ← HE.out.2.1] at ca
      have hF := hdr_free (bs k)
      have BL := fun W => blockLen_any (bs k) W
      have N1 : Hid (pos bs (k + 1) = p + size (bs k)) := by show _ = _; rw [HE.out.2.1]; rfl
      generalize hdr (bs k) = hh at *
      cases hf : (bs k).free with
      | true =>
        have N2 : Hid (∀ q, F bs (k + 1) q = upd (F bs k) p true q) := by
          intro q
          rw [HE.out.2.1]; simp only [F]; rw [if_pos hf]
        rw [hf] at hF
        have HU := unset_bits HE.out.2.2.2 (k := p) (by omega) hL
        generalize size (bs k) = z at *
        go_wp2_with (first
          | (go_at_call 30; refine (BL _).mono ?_; rintro e w' ⟨rfl, hw'⟩; rw [hw'])
          | (go_at_call 37; refine HU.mono ?_; rintro e w2 ⟨rfl, hB2, v, hv⟩; have hbut : But sb wr w2 := (by rw [hv]; exact But.set _ _ _); have c4b := (hbut.cell (p := ⟨hb, 4, none⟩) hCR.lh hCR.nh).trans c4; have cab := (hbut.cell (p := ⟨ab, p, none⟩) hCR.la hCR.na).trans ca; have cxb := (hbut.cell (p := ⟨xb, 0, none⟩) (Nat.lt_of_lt_of_le hxl HE.out.2.2.1.size) hxn).trans cx; clear hv))
        go_roundg (gk - 1)
        case measure => have := HE.out.1; omega
        case rel =>
          refine ⟨k + 1, p + z, by go_num, by have := HE.out.1; omega, N1.out.symm, HE.out.2.2.1.trans hbut, hB2.congr (fun q _ => ?_)⟩
          rw [N2.out q]
          unfold upd
          by_cases hq : q = p
          · simp [hq]
          · simp [hq]
      | false =>
        have N2 : Hid (F bs (k + 1) = F bs k) := by show _ = _; simp only [F]; rw [if_neg (by simp [hf])]
        rw [hf] at hF
        generalize size (bs k) = z at *
        go_wp2_with (go_at_call 30; refine (BL _).mono ?_; rintro e w' ⟨rfl, hw'⟩; rw [hw'])
        go_roundg (gk - 1)
        case measure => have := HE.out.1; omega
        case rel => exact ⟨k + 1, p + z, by go_num, by have := HE.out.1; omega, N1.out.symm, HE.out.2.2.1, by rw [N2.out]; exact HE.out.2.2.2⟩
    · have hkn : k = n := by have := HE.out.1; omega
      have hpt : p = top := by rw [HE.out.2.1, HTOP.out, hkn]
      subst hpt
      go_wp2_with fail
      go_end0
      exact ⟨rfl, HE.out.2.2.1, by rw [← hkn]; exact HE.out.2.2.2⟩
end Go.Proofs.YbulkuieFmt
