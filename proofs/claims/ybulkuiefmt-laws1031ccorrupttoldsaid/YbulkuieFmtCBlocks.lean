/-
  verifyBlocks on a heap that the C laws lay (seat b1031aF).
-/
import Derived.Test.YbulkuieFmtCHeap
namespace Go.Proofs.YbulkuieFmt
open Go.RowKit C

set_option maxRecDepth 100000 in
set_option maxHeartbeats 1000000 in
theorem blocks_any (bs : Nat → Blk) (n : Nat) {w : World} {hb ab sb rb L : Nat} {A sm : Nat → Nat} {nz m mc : Nat} {R : Nat → Nat} {dr : Nat} {foot : Int} {C : Nat → Bool}
    (h : CR w hb ab sb rb (pos bs n) L A sm nz m mc R dr foot) (hC : BitsAt w sb L C) (hA : ∀ k, k < n → A (pos bs k) = hdr (bs k)) (hB : ∀ k, k < n → (bs k).free = false → C (pos bs k) = true) (hn : n ≤ 1024) :
    Calls Ybaf.prog 20 #[.pointer (some ⟨hb, 0, none⟩)] w fun e w' => e = .returned (.tuple #[.int .i64 (((objs bs n).length : Nat) : Int), .int .i64 ((ow bs n : Nat) : Int), .int .i64 ((fc bs n : Nat) : Int), .nilIface]) ∧ ∃ d, w' = w.drewN d := by
  have ht := h.ht
  have hL := h.hL
  have hLt := h.hLt
  have c4 := h.c4
  have c6 := h.c6
  have c7 := h.c7
  have c9 := h.c9
  obtain ⟨top, htop⟩ : ∃ top, top = pos bs n := ⟨_, rfl⟩
  rw [← htop] at c4 c6 c7 ht hLt
  have g1 : decide ((top : Int) < 0) = false := by simp
  have g2 : decide ((top : Int) + 16 < (top : Int)) = false := by simp; omega
  have g3 : decide ((top : Int) < (top : Int)) = false := by simp
  have HTOP : Hid (top = pos bs n) := htop
  clear htop
  go_enter Ybaf.func20, Ybaf.ntmps20
  go_wp2
  go_quiet (fail)
  go_wp2_with fail
  clear g1 g2 g3
  go_loopg [2, 3, 4, 6] n (fun g o ws fr at_ wr => ∃ k o' ws' fr' p : Nat, k + g = n ∧ o = .int .i64 (o' : Int) ∧ ws = .int .i64 (ws' : Int) ∧ fr = .int .i64 (fr' : Int) ∧ at_ = .int .i64 (p : Int) ∧ wr = w.drewN nq ∧ (o' = (objs bs k).length ∧ ws' = ow bs k ∧ fr' = fc bs k ∧ p = pos bs k))
  case atStart => exact ⟨0, 0, 0, 0, 0, by omega, rfl, rfl, rfl, rfl, rfl, rfl, rfl, rfl, rfl⟩
  case round =>
    obtain ⟨k, o, ws, fr, p, hkg, rfl, rfl, rfl, rfl, rfl, hE⟩ := hrel
    have b1 : o ≤ 1024 := by have := objs_length_le bs k; have := hE.1; omega
    have b2 : ws ≤ 10000 := by have := ow_le bs k; have h2 := pos_mono bs (show k ≤ n by omega); have := HTOP.out; have := hE.2.1; omega
    have b3 : fr ≤ 1024 := by have := fc_le bs k; have := hE.2.2.1; omega
    have HE : Hid (o = (objs bs k).length ∧ ws = ow bs k ∧ fr = fc bs k ∧ p = pos bs k) := hE
    have HK : Hid (k + gk = n) := hkg
    clear hE hkg
    by_cases hk : k < n
    · have hz1 := size_ge (bs k)
      have hz2 := size_le (bs k)
      have hpz : p + size (bs k) ≤ top := by have h1 := pos_mono bs (show k + 1 ≤ n by omega); have := HTOP.out; have := HE.out.2.2.2; simp only [pos] at h1; omega
      have ca := h.ca (pos bs k) (by have := HE.out.2.2.2; have := HTOP.out; omega)
      rw [hA k hk, ← HE.out.2.2.2] at ca
      have hF := hdr_free (bs k)
      have hW := hdr_forward (bs k)
      have BL := fun W => blockLen_any (bs k) W
      have N1 : Hid (pos bs (k + 1) = p + size (bs k)) := by show _ = _; rw [HE.out.2.2.2]; rfl
      have hHas := fun W (hW : BitsAt W sb L C) => has_bits hW (k := p) (by omega) hL
      generalize hdr (bs k) = hh at *
      cases hf : (bs k).free with
      | true =>
        have N2 : Hid (objs bs (k + 1) = objs bs k ∧ ow bs (k + 1) = ow bs k ∧ fc bs (k + 1) = fc bs k + 1) := by
          show _ ∧ _ ∧ _; simp only [objs, ow, fc, hf, if_true]; exact ⟨trivial, trivial, trivial⟩
        rw [hf] at hF
        generalize size (bs k) = z at *
        go_wp2_with (go_at_call 30; refine (BL _).mono ?_; rintro e w' ⟨rfl, rfl⟩)
        go_roundg (gk - 1)
        case measure => have := HK.out; omega
        case rel =>
          have hE := HE.out
          have hN := N2.out
          exact ⟨k + 1, o, ws, fr + 1, p + z, by have := HK.out; omega, rfl, rfl, by go_num, by go_num, rfl, by rw [hN.1]; exact hE.1, by rw [hN.2.1]; exact hE.2.1, by rw [hN.2.2, ← hE.2.2.1], N1.out.symm⟩
      | false =>
        have N2 : Hid ((objs bs (k + 1)).length = (objs bs k).length + 1 ∧ ow bs (k + 1) = ow bs k + size (bs k) ∧ fc bs (k + 1) = fc bs k) := by
          show _ ∧ _ ∧ _; simp [objs, ow, fc, hf]
        have hBk := hB k hk hf
        rw [← HE.out.2.2.2] at hBk
        rw [hBk] at hHas
        rw [hf] at hF
        have HHas := hHas _ (hC.drewN nq)
        clear hHas hBk
        generalize size (bs k) = z at *
        go_wp2_with (first | (go_at_call 30; refine (BL _).mono ?_; rintro e w' ⟨rfl, rfl⟩) | (go_at_call 31; refine HHas.mono ?_; rintro e w' ⟨rfl, rfl⟩))
        go_roundg (gk - 1)
        case measure => have := HK.out; omega
        case rel =>
          have hE := HE.out
          have hN := N2.out
          exact ⟨k + 1, o + 1, ws + z, fr, p + z, by have := HK.out; omega, by go_num, by go_num, rfl, by go_num, rfl, by rw [hN.1, ← hE.1], by rw [hN.2.1, ← hE.2.1], by rw [hN.2.2]; exact hE.2.2.1, N1.out.symm⟩
    · have hkn : k = n := by have := HK.out; omega
      have hE := HE.out
      rw [hkn] at hE
      have hpt : p = top := by rw [hE.2.2.2, HTOP.out]
      have HP : Hid (o = (objs bs n).length ∧ ws = ow bs n ∧ fr = fc bs n) := ⟨hE.1, hE.2.1, hE.2.2.1⟩
      clear hE hkn
      subst hpt
      go_wp2_with fail
      refine bodyPost_ret (v := .tuple #[.int .i64 (o : Int), .int .i64 (ws : Int), .int .i64 (fr : Int), .nilIface]) (by simp [results, Ybaf.results20, go_sem]) rfl ⟨?_, _, rfl⟩
      obtain ⟨e1, e2, e3⟩ := HP.out
      rw [e1, e2, e3]
end Go.Proofs.YbulkuieFmt
