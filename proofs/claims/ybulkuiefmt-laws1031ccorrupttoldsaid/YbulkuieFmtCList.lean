/-
  verifyFreeList on a heap that the C laws lay (seat b1031aF).
-/
import Derived.Test.YbulkuieFmtCHeap
namespace Go.Proofs.YbulkuieFmt
open Go.RowKit C

set_option maxRecDepth 100000 in
/-- verifyFreeList at an empty list. -/
theorem list_zero (hb : Nat) (x y : Int) (w : World) :
    Calls Ybaf.prog 38 #[.pointer (some ⟨hb, 0, none⟩), .int .u64 0, .int .i64 x, .int .i64 y] w fun e w' => e = .returned (.tuple #[.int .i64 0, .nilIface]) ∧ w' = w := by
  go_enter Ybaf.func38, Ybaf.ntmps38
  go_wp2
  refine wp_loop_rounds 1 ?_
  rw [rounds_succ]
  go_wp2
  go_ret2
  exact ⟨rfl, rfl⟩

set_option maxRecDepth 100000 in
set_option maxHeartbeats 1000000 in
theorem list_any (bs : Nat → Blk) (n : Nat) {w : World} {hb ab sb rb L : Nat} {A sm : Nat → Nat} {nz m mc : Nat} {R : Nat → Nat} {dr : Nat} {foot : Int} {C : Nat → Bool}
    (h : CR w hb ab sb rb (pos bs n) L A sm nz m mc R dr foot) (hC : BitsAt w sb L C) (hA : ∀ k, k < n → A (pos bs k) = hdr (bs k)) (hAl : ∀ k, k < n → (bs k).free = true → A (pos bs k + 1) = lnk (chain bs (size (bs k)) k))
    (z : Nat) (hz : z ≤ 63) (hl : ∀ p, p ∈ chain bs z n → C p = true) (hn : n ≤ 1024) :
    Calls Ybaf.prog 38 #[.pointer (some ⟨hb, 0, none⟩), .int .u64 ((lnk (chain bs z n) : Nat) : Int), .int .i64 (z : Int), .int .i64 (z : Int)] w fun e w' =>
      e = .returned (.tuple #[.int .i64 (((chain bs z n).length : Nat) : Int), .nilIface]) ∧ But sb w w' ∧ BitsAt w' sb L (fun p => C p && !decide (p ∈ chain bs z n)) := by
  have ht := h.ht
  have hL := h.hL
  have hLt := h.hLt
  obtain ⟨top, htop⟩ : ∃ top, top = pos bs n := ⟨_, rfl⟩
  rw [← htop] at ht hLt
  have HTOP : Hid (top = pos bs n) := htop
  clear htop
  obtain ⟨total, htot⟩ : ∃ t, t = (chain bs z n).length := ⟨_, rfl⟩
  have hlen : (chain bs z n).length ≤ 1024 := by
    have h1 := listed_all bs n 64 (by decide)
    have h2 := fc_le bs n
    have h3 : ∀ M, z < M → (chain bs z n).length ≤ listed bs n M := by
      intro M
      induction M with
      | zero => intro h; omega
      | succ M ih =>
        intro h
        simp only [listed]
        by_cases e : z = M
        · subst e; omega
        · have := ih (by omega); omega
    have := h3 64 (by omega)
    omega
  rw [← htot] at hlen
  have HTOT : Hid (total = (chain bs z n).length) := htot
  clear htot
  have hSt : Hid (chain bs z n = [] ++ chain bs z n) := rfl
  obtain ⟨lk, hlk⟩ : ∃ lk, lk = lnk (chain bs z n) := ⟨_, rfl⟩
  rw [← hlk]
  have HLK : Hid (lk = lnk (chain bs z n)) := hlk
  clear hlk
  go_enter Ybaf.func38, Ybaf.ntmps38
  go_wp2_with fail
  go_loopg [1, 10] (chain bs z n).length (fun g li c wr => ∃ (a r : List Nat) (lk' c' : Nat), li = .int .u64 (lk' : Int) ∧ c = .int .i64 (c' : Int) ∧ (chain bs z n = a ++ r ∧ g = r.length ∧ lk' = lnk r ∧ c' = a.length ∧ But sb w wr ∧ BitsAt wr sb L (fun p => C p && !decide (p ∈ a))))
  case atStart => exact ⟨[], chain bs z n, lk, 0, rfl, rfl, rfl, rfl, HLK.out, rfl, But.refl _ _, hC.congr (fun p _ => by simp)⟩
  case round =>
    obtain ⟨a, r, lk', c', rfl, rfl, hE⟩ := hrel
    have HE : Hid _ := hE
    clear hE
    have hCR := h.but HE.out.2.2.2.2.1
    have c4 := hCR.c4
    have c6 := hCR.c6
    have c9 := hCR.c9
    rw [← HTOP.out] at c4 c6
    have hc' : c' ≤ 1024 := by have h1 := HE.out.1; have h2 := HE.out.2.2.2.1; have := HTOT.out; rw [h1, List.length_append] at this; omega
    cases r with
    | nil =>
      have hz0 : lk' = 0 := HE.out.2.2.1
      subst hz0
      have HF : Hid ((c' : Int) = ((total : Nat) : Int)) := by have h1 := HE.out.1; have h2 := HE.out.2.2.2.1; have h3 := HTOT.out; rw [h1] at h3; simp at h3; show _ = _; omega
      go_wp2_with fail
      go_ret2
      refine ⟨?_, HE.out.2.2.2.2.1, ?_⟩
      · have := HF.out; rw [← HTOT.out, ← this]; rfl
      · have h1 := HE.out.1
        rw [List.append_nil] at h1
        rw [h1]; exact HE.out.2.2.2.2.2
    | cons p r =>
      obtain ⟨i, hi, hfi, hsi, hpi, hri⟩ := chain_suffix bs HE.out.1
      have hlp : lk' = p + 1 := HE.out.2.2.1
      subst hlp
      have hp2 : p + 2 ≤ top := by have := pos_lt bs hi; have := HTOP.out; omega
      have ca := hCR.ca p (by have := HTOP.out; omega)
      have ca1 := hCR.ca (p + 1) (by have := HTOP.out; omega)
      rw [hpi, hA i hi, ← hpi] at ca
      rw [hpi, hAl i hi hfi, hsi, ← hri, ← hpi] at ca1
      have hF := hdr_free (bs i)
      rw [hfi] at hF
      have BL := fun W => blockLen_any (bs i) W
      rw [hsi] at BL
      generalize hdr (bs i) = hh at *
      have hpa : p ∉ a := fun hm => by
        have := chain_nodup bs z n
        rw [HE.out.1] at this
        exact (List.nodup_append.1 this).2.2 p hm p (by simp) rfl
      have hCp : (C p && !decide (p ∈ a)) = true := by rw [hl p (by rw [HE.out.1]; simp)]; simp [hpa]
      have HHas := has_bits HE.out.2.2.2.2.2 (k := p) (by omega) hL
      rw [hCp] at HHas
      have hf0 : (bits .and .u64 (hh : Int) 9223372036854775808 == 0) = false := by rw [bne, Bool.not_eq_true'] at hF; exact hF
      have HU := unset_bits HE.out.2.2.2.2.2 (k := p) (by omega) hL
      have HN : Hid (r = chain bs z i) := hri
      have hlr : lnk r ≤ 10000 := by rw [hri]; have := lnk_le bs (m := z) (k := i); have := pos_mono bs (show i ≤ n by omega); have := HTOP.out; omega
      obtain ⟨lr, hlr'⟩ : ∃ lr, lr = lnk r := ⟨_, rfl⟩
      rw [← hlr'] at ca1 hlr
      have HLR : Hid (lr = lnk r) := hlr'
      clear hlr' hri hsi hpi hCp hpa hF
      go_wp2_with (first
        | (go_at_call 31; refine HHas.mono ?_; rintro e w' ⟨rfl, hw'⟩; rw [hw'])
        | (go_at_call 30; refine (BL _).mono ?_; rintro e w' ⟨rfl, hw'⟩; rw [hw'])
        | (go_at_call 37; refine HU.mono ?_; rintro e w2 ⟨rfl, hB2, v, hv⟩; have hbut : But sb wr w2 := (by rw [hv]; exact But.set _ _ _); have c4b := (hbut.cell (p := ⟨hb, 4, none⟩) hCR.lh hCR.nh).trans c4; have ca1b := (hbut.cell (p := ⟨ab, p + 1, none⟩) hCR.la hCR.na).trans ca1; clear hv))
      go_roundg (gk - 1)
      case measure => have := HE.out.2.1; simp at this; omega
      case rel =>
        refine ⟨a ++ [p], r, lr, c' + 1, rfl, by go_num, by rw [List.append_assoc]; exact HE.out.1, ?_, HLR.out, ?_, HE.out.2.2.2.2.1.trans hbut, hB2.congr (fun q _ => ?_)⟩
        · have := HE.out.2.1; simp at this; omega
        · have := HE.out.2.2.2.1; simp; omega
        · unfold upd
          by_cases hq : q = p
          · subst hq; simp
          · simp [hq]
end Go.Proofs.YbulkuieFmt
