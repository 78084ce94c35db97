/-
  verifyFreeLists on a heap that the C laws lay (seat b1031aF).
-/
import Derived.Test.YbulkuieFmtCList
import Derived.Test.YbulkuieFmtCClear
import Derived.Deep.RegionWith
import Derived.BigQuiet
import Derived.Test.YbulkuieFmtBRefuse
namespace Go.Proofs.YbulkuieFmt
open Go.RowKit C

/-- The lists below z hold p. -/
def seen (bs : Nat → Blk) (n : Nat) : Nat → Nat → Bool
  | 0, _ => false
  | z + 1, p => seen bs n z p || decide (p ∈ chain bs z n)
theorem seen_iff (bs : Nat → Blk) (n z p : Nat) : seen bs n z p = true ↔ ∃ m, m < z ∧ p ∈ chain bs m n := by
  induction z with
  | zero => simp [seen]
  | succ z ih =>
    simp only [seen, Bool.or_eq_true, ih, decide_eq_true_eq]
    constructor
    · rintro (⟨m, hm, hp⟩ | hp)
      · exact ⟨m, by omega, hp⟩
      · exact ⟨z, by omega, hp⟩
    · rintro ⟨m, hm, hp⟩
      by_cases e : m = z
      · subst e; exact .inr hp
      · exact .inl ⟨m, by omega, hp⟩
theorem not_seen (bs : Nat → Blk) (n z p : Nat) (hp : p ∈ chain bs z n) : seen bs n z p = false := by
  rw [Bool.eq_false_iff]
  intro h
  obtain ⟨m, hm, hq⟩ := (seen_iff bs n z p).1 h
  obtain ⟨i, _, _, hs, hi⟩ := chain_mem bs hp
  obtain ⟨j, _, _, ht, hj⟩ := chain_mem bs hq
  have := pos_inj bs (hi.symm.trans hj)
  subst this
  omega
theorem seen_all (bs : Nat → Blk) (n p : Nat) : seen bs n 64 p = F bs n p := by
  rw [Bool.eq_iff_iff, seen_iff, F_iff]
  constructor
  · rintro ⟨m, _, hp⟩
    obtain ⟨i, hi, hf, _, hpi⟩ := chain_mem bs hp
    exact ⟨i, hi, hf, hpi⟩
  · rintro ⟨i, hi, hf, rfl⟩
    have := size_le (bs i)
    exact ⟨size (bs i), by omega, mem_chain bs hi hf⟩
theorem chain_F (bs : Nat → Blk) (n z p : Nat) (hp : p ∈ chain bs z n) : F bs n p = true := by
  obtain ⟨i, hi, hf, _, hpi⟩ := chain_mem bs hp
  exact (F_iff bs).2 ⟨i, hi, hf, hpi⟩


theorem fc_listed (bs : Nat → Blk) (n z : Nat) (h : z ≤ 64) : listed bs n z ≤ fc bs n := by
  have h1 := listed_all bs n 64 (by decide)
  rw [← h1]
  have : ∀ d, listed bs n z ≤ listed bs n (z + d) := by
    intro d
    induction d with
    | zero => exact Nat.le_refl _
    | succ d ih => rw [← Nat.add_assoc]; simp only [listed]; omega
  have h2 := this (64 - z)
  rw [show z + (64 - z) = 64 by omega] at h2
  exact h2

/-- A postcondition that bears the normal exit alone: a region that draws, inside a function that defers, is walked under it. -/
def OnlyN (Q : Exit → Act → World → Prop) : Exit → Act → World → Prop
  | .normal, a, w => Q .normal a w
  | _, _, _ => False
theorem wp_onlyN {P : Program} {c : Code} {Q : Exit → Act → World → Prop} {a : Act} {w : World} (h : c.wp P (OnlyN Q) a w) : c.wp P Q a w :=
  Code.wp_mono (fun e a w hq => by cases e <;> first | exact hq | exact hq.elim) h

set_option maxRecDepth 100000 in
set_option maxHeartbeats 1000000 in
theorem lists_any (bs : Nat → Blk) (n : Nat) (cor : Bool) {w : World} {hb ab sb rb L : Nat} {A sm : Nat → Nat} {nz m mc : Nat} {R : Nat → Nat} {dr : Nat} {foot : Int} {C : Nat → Bool} {a : Addr} {s : ByteArray}
    (h : CR w hb ab sb rb (pos bs n) L A sm nz m mc R dr foot) (hC : BitsAt w sb L C) (hS : Sent w 4 a s) (hg4 : 4 ≠ sb) (hga : a.block ≠ sb) (hA : ∀ k, k < n → A (pos bs k) = hdr (bs k)) (hAl : ∀ k, k < n → (bs k).free = true → A (pos bs k + 1) = lnk (chain bs (size (bs k)) k))
    (hsm : ∀ z, z < 64 → sm z = lnk (chain bs z n)) (hnz : ∀ z, z < 64 → nz.testBit z = (decide (lnk (chain bs z n) ≠ 0) || (cor && decide (z = 0)))) (hnl : nz < 18446744073709551616) (hCF : ∀ p, F bs n p = true → C p = false) (hn : n ≤ 1024) :
    Calls Ybaf.prog 26 #[.pointer (some ⟨hb, 0, none⟩), .int .i64 ((fc bs n : Nat) : Int)] w fun e w' => But sb w w' ∧ ((cor = false ∧ e = .returned .nilIface ∧ BitsAt w' sb L C) ∨ (cor = true ∧ ∃ t x, e = .returned (.iface t x) ∧ ErrAt w' t x a)) := by
  have ht := h.ht
  have hL := h.hL
  have hLt := h.hLt
  have hfc := fc_le bs n
  obtain ⟨top, htop⟩ : ∃ top, top = pos bs n := ⟨_, rfl⟩
  rw [← htop] at ht hLt
  have HTOP : Hid (top = pos bs n) := htop
  clear htop
  obtain ⟨f, hff⟩ : ∃ f, f = fc bs n := ⟨_, rfl⟩
  rw [← hff] at hfc ⊢
  have HFF : Hid (f = fc bs n) := hff
  clear hff
  have hmf : ∀ (fn : Fn) (first cap : Array Value) (w : World), (Instr.makeFunc fn first cap).run Ybaf.prog w = .ok (.func fn first cap) w := fun _ _ _ _ => rfl
  have hsbl := hC.lt
  go_enter_defers Ybaf.func26, Ybaf.ntmps26
  go_wp2_with fail
  go_loopg [5] n (fun g at_ wr => ∃ k p : Nat, at_ = .int .i64 (p : Int) ∧ (k + g = n ∧ p = pos bs k ∧ But sb (w.alloc (.cells #[.pointer (some ⟨hb, 0, none⟩)] 23)) wr ∧ BitsAt wr sb L (fun q => C q || F bs k q)))
  case atStart => exact ⟨0, 0, rfl, by omega, rfl, But.refl _ _, (hC.below (below_one _ _)).congr (fun q _ => by simp [F])⟩
  case round =>
    obtain ⟨k, p, rfl, hE⟩ := hrel
    have HE : Hid _ := hE
    clear hE
    have hCR := (h.but (But.of_below (below_one w (.cells #[.pointer (some ⟨hb, 0, none⟩)] 23)))).but HE.out.2.2.1
    have c4 := hCR.c4
    have c6 := hCR.c6
    have c9 := hCR.c9
    rw [← HTOP.out] at c4 c6
    have cx : wr.cell? ⟨w.heap.size, 0, none⟩ = some (.pointer (some ⟨hb, 0, none⟩)) := (HE.out.2.2.1.cell (p := ⟨w.heap.size, 0, none⟩) (by simp) (by show w.heap.size ≠ sb; omega)).trans (by simp [go_sem])
    by_cases hk : k < n
    · have hz1 := size_ge (bs k)
      have hz2 := size_le (bs k)
      have hpz : p + size (bs k) ≤ top := by have h1 := pos_mono bs (show k + 1 ≤ n by omega); have := HTOP.out; have := HE.out.2.1; simp only [pos] at h1; omega
      have ca := hCR.ca (pos bs k) (by have := HE.out.2.1; have := HTOP.out; omega)
      rw [hA k hk, ← HE.out.2.1] at ca
      have hF := hdr_free (bs k)
      have BL := fun W => blockLen_any (bs k) W
      have N1 : Hid (pos bs (k + 1) = p + size (bs k)) := by show _ = _; rw [HE.out.2.1]; rfl
      generalize hdr (bs k) = hh at *
      cases hf : (bs k).free with
      | true =>
        have N2 : Hid (∀ q, F bs (k + 1) q = upd (F bs k) p true q) := by
          intro q
          rw [HE.out.2.1]; simp only [F]; rw [if_pos hf]
        rw [hf] at hF
        have HU := set_bits HE.out.2.2.2 (k := p) (by omega) hL
        have hwz : w.heap.size < wr.heap.size := by have := HE.out.2.2.1.size; simp at this; omega
        have hwn : w.heap.size ≠ sb := by omega
        generalize size (bs k) = z at *
        go_wp2_with (first
          | (go_at_call 30; refine (BL _).mono ?_; rintro e w' ⟨rfl, hw'⟩; rw [hw'])
          | (go_at_call 12; refine HU.mono ?_; rintro e w2 ⟨rfl, hB2, v, hv⟩; have hbut : But sb wr w2 := (by rw [hv]; exact But.set _ _ _); have c4b := (hbut.cell (p := ⟨hb, 4, none⟩) hCR.lh hCR.nh).trans c4; have cab := (hbut.cell (p := ⟨ab, p, none⟩) hCR.la hCR.na).trans ca; have cxb := (hbut.cell (p := ⟨w.heap.size, 0, none⟩) hwz hwn).trans cx; clear hv))
        go_roundg (gk - 1)
        case measure => have := HE.out.1; omega
        case rel =>
          refine ⟨k + 1, p + z, by go_num, by have := HE.out.1; omega, N1.out.symm, HE.out.2.2.1.trans hbut, hB2.congr (fun q _ => ?_)⟩
          rw [N2.out q]
          unfold upd
          by_cases hq : q = p
          · simp [hq]
          · simp [hq]
      | false =>
        have N2 : Hid (F bs (k + 1) = F bs k) := by show _ = _; simp only [F]; rw [if_neg (by simp [hf])]
        rw [hf] at hF
        generalize size (bs k) = z at *
        go_wp2_with (go_at_call 30; refine (BL _).mono ?_; rintro e w' ⟨rfl, hw'⟩; rw [hw'])
        go_roundg (gk - 1)
        case measure => have := HE.out.1; omega
        case rel => exact ⟨k + 1, p + z, by go_num, by have := HE.out.1; omega, N1.out.symm, HE.out.2.2.1, by rw [N2.out]; exact HE.out.2.2.2⟩
    · have hkn : k = n := by have := HE.out.1; omega
      have hpt : p = top := by rw [HE.out.2.1, HTOP.out, hkn]
      subst hpt
      have HB0 := HE.out.2.2.2
      rw [hkn] at HB0
      have HBU := HE.out.2.2.1
      clear HE
      have hwz : w.heap.size < wr.heap.size := by have := HBU.size; simp at this; omega
      have hwn : w.heap.size ≠ sb := by omega
      obtain ⟨w1, rfl⟩ : ∃ w1, w1 = wr := ⟨_, rfl⟩
      go_wp2_with fail
      go_loopg [44, 6] 64 (fun g zv lv wr2 => ∃ z l : Nat, zv = .int .i64 (z : Int) ∧ lv = .int .i64 (l : Int) ∧ (z + g = 64 ∧ l = listed bs n z ∧ (cor = true → z = 0) ∧ But sb w1 wr2 ∧ BitsAt wr2 sb L (fun q => (C q || F bs n q) && !seen bs n z q)))
      case atStart => exact ⟨0, 0, rfl, rfl, rfl, rfl, fun _ => rfl, But.refl _ _, HB0.congr (fun q _ => by simp [seen])⟩
      case round =>
        obtain ⟨z, l, rfl, rfl, hE⟩ := hrel
        have HE : Hid _ := hE
        clear hE
        have hCR2 := hCR.but HE.out.2.2.2.1
        have c7b := hCR2.c7
        have c74b := hCR2.c74
        have c75b := hCR2.c75
        rw [← HTOP.out] at c7b
        have cxb := (HE.out.2.2.2.1.cell (p := ⟨w.heap.size, 0, none⟩) hwz hwn).trans cx
        by_cases hz : z < 64
        · have csb := hCR2.cs z hz
          have hlz : l ≤ 1024 := by rw [HE.out.2.1]; have := fc_listed bs n z (by omega); have := HFF.out; omega
          rw [hsm z hz] at csb
          have HNZ := hnz z hz
          obtain ⟨lk, hlk⟩ : ∃ lk, lk = lnk (chain bs z n) := ⟨_, rfl⟩
          rw [← hlk] at csb HNZ
          have HLK : Hid (lk = lnk (chain bs z n)) := hlk
          clear hlk
          have HBT := Plain.bit_test (nz : Int) z (by omega) (by omega)
          rw [Int.toNat_natCast, HNZ] at HBT
          cases cor with
          | false =>
            have hX : (!(((lk : Nat) : Int) != 0) == (bits .and .u64 ((nz : Int) / 2 ^ z) 1 != 0)) = false := by
              rw [HBT]
              by_cases h0 : lk = 0
              · simp [h0]
              · simp [h0, bne]
            clear HBT HNZ
            go_wp2_with fail
            go_quiet (fail)
            obtain ⟨w2, hw2⟩ : ∃ w2, w2 = wr.drewN nq := ⟨_, rfl⟩
            rw [← hw2]
            have hb2 : But sb wr w2 := by rw [hw2]; exact But.drewN _ _
            have HB2 : BitsAt w2 sb L (fun q => (C q || F bs n q) && !seen bs n z q) := by rw [hw2]; exact HE.out.2.2.2.2.drewN _
            clear hw2
            have hCR3 := hCR2.but hb2
            have csc := hCR3.cs z hz
            rw [hsm z hz, ← HLK.out] at csc
            have cxc := (hb2.cell (p := ⟨w.heap.size, 0, none⟩) (Nat.lt_of_lt_of_le hwz HE.out.2.2.2.1.size) hwn).trans cxb
            have HLI := fun (W : World) (hcw : CR W hb ab sb rb (pos bs n) L A sm nz m mc R dr foot) (hbw : BitsAt W sb L (fun q => (C q || F bs n q) && !seen bs n z q)) => list_any bs n (C := fun q => (C q || F bs n q) && !seen bs n z q) hcw hbw hA hAl z (by omega) (fun q hq => by simp only [chain_F bs n z q hq, not_seen bs n z q hq]; simp) hn
            rw [← HLK.out] at HLI
            obtain ⟨ln, hln⟩ : ∃ ln, ln = (chain bs z n).length := ⟨_, rfl⟩
            simp only [← hln] at HLI
            have HLN : Hid (ln = (chain bs z n).length) := hln
            have hln1 : l + ln ≤ 1024 := by have h1 := fc_listed bs n (z + 1) (by omega); simp only [listed] at h1; have := HFF.out; rw [HE.out.2.1]; omega
            clear hln
            go_wp2_with fail
            refine wp_onlyN ?_
            go_region_with (go_at_call 38; refine (HLI _ (by first | exact hCR3 | exact hCR3.but (But.drewN _ _)) (by first | exact HB2 | exact HB2.drewN _)).mono ?_; rintro e w' ⟨rfl, hB4, hC4⟩)
            all_goals dsimp only [OnlyN]
            all_goals go_wp2_with fail
            all_goals go_roundg (gk - 1)
            all_goals (first
              | (have := HE.out.1; omega)
              | (refine ⟨z + 1, l + ln, by go_num, by go_num, by have := HE.out.1; omega, by rw [HE.out.2.1, HLN.out]; rfl, fun h => (by cases h), HE.out.2.2.2.1.trans (hb2.trans ((But.drewN _ 1).trans hB4)), hC4.congr (fun q _ => ?_)⟩
                 simp only [seen]
                 cases C q || F bs n q <;> cases seen bs n z q <;> simp))
          | true =>
            have hz0 := HE.out.2.2.1 rfl
            have hl0 : lk = 0 := by
              rw [HLK.out, hz0]
              cases hch : chain bs 0 n with
              | nil => rfl
              | cons p r =>
                obtain ⟨i, _, _, h2, _⟩ := chain_mem bs (show p ∈ chain bs 0 n by rw [hch]; simp)
                have := size_ge (bs i); omega
            have hX : (!(((lk : Nat) : Int) != 0) == (bits .and .u64 ((nz : Int) / 2 ^ z) 1 != 0)) = true := by rw [HBT, hl0, hz0]; simp
            clear HBT HNZ hl0 hz0
            go_wp2_with fail
            go_quiet (fail)
            obtain ⟨w2, hw2⟩ : ∃ w2, w2 = wr.drewN nq := ⟨_, rfl⟩
            rw [← hw2]
            have hb2 : But sb w1 w2 := by rw [hw2]; exact HE.out.2.2.2.1.trans (But.drewN _ _)
            have HB2 : BitsAt w2 sb L (fun q => (C q || F bs n q) && !seen bs n z q) := by rw [hw2]; exact HE.out.2.2.2.2.drewN _
            clear hw2
            have hS2 : Sent w2 4 a s := ((hS.mono (Nat.le_refl _) (below_one w _)).but HBU hg4 hga).but hb2 hg4 hga
            have cg := hS2.cg
            have hS3 := hS2.mono (Nat.le_refl _) (below_one w2 (.cells #[.iface 99 (.pointer (some a)), .iface 3 (.int .i64 (z : Int))] 20))
            have ca3 := hS3.ca
            go_wp2_with (go_at_call 22; refine (errorf_list _ a s (z : Int) _ ca3 (by simp [go_sem]) (by simp [go_sem])).mono ?_; rintro e w' ⟨txt, rfl, rfl⟩)
            obtain ⟨w3, hw3⟩ : ∃ w3, w3 = ((w2.alloc (.cells #[.iface 99 (.pointer (some a)), .iface 3 (.int .i64 (z : Int))] 20)).alloc (.cells #[.string txt, .iface 99 (.pointer (some a))] 129)).drew := ⟨_, rfl⟩
            have hE3 : w3.cell? ⟨w2.heap.size + 1, 1, none⟩ = some (.iface 99 (.pointer (some a))) := by rw [hw3]; simp [go_sem]
            have hz3 : w2.heap.size + 2 ≤ w3.heap.size := by rw [hw3]; simp
            have hb3 : But sb w2 w3 := by rw [hw3]; exact But.of_below (((below_one w2 _).alloc (by simp) _).drew)
            have hb13 := hb2.trans hb3
            have hsz2 : w.heap.size < w2.heap.size := Nat.lt_of_lt_of_le hwz hb2.size
            refine leaves_cons (f := 36) (args := #[.pointer (some ⟨w.heap.size, 0, none⟩)]) (by simp) (by simp [go_sem]) ?_
            rw [← hw3]
            refine (clear_deferred bs n .returning (hCR.but hb13) (HB2.below (by rw [hw3]; exact ((below_one w2 _).alloc (by simp) _).drew)) hA ((hb13.cell (p := ⟨w.heap.size, 0, none⟩) hwz hwn).trans cx) (Nat.lt_of_lt_of_le hwz hb13.size) hwn).mono ?_
            rintro e u' w9 ⟨rfl, rfl, h1, h2⟩
            exact ⟨_, results_tmp rfl _ _ _, (But.of_below (below_one w _)).trans (HBU.trans (hb13.trans h1)), 93, .pointer (some ⟨w2.heap.size + 1, 0, none⟩), rfl, .inr ⟨w2.heap.size + 1, rfl, rfl, Nat.lt_of_lt_of_le (by omega) h1.size, (h1.cell (p := ⟨w2.heap.size + 1, 1, none⟩) (by show w2.heap.size + 1 < _; omega) (by show w2.heap.size + 1 ≠ sb; omega)).trans hE3⟩⟩
        · have hz64 : z = 64 := by have := HE.out.1; omega
          subst hz64
          have hl : l = f := by rw [HE.out.2.1, listed_all bs n 64 (by decide), HFF.out]
          subst hl
          have hcf : cor = false := by cases cor with | false => rfl | true => exact absurd (HE.out.2.2.1 rfl) (by decide)
          go_wp2_with fail
          go_quiet (first | (go_at_call 38; refine Calls.quiet_of_same (list_zero _ _ _ _)))
          go_wp2_with fail
          have hb2 : But sb w1 (wr.drewN nq) := HE.out.2.2.2.1.trans (But.drewN _ _)
          refine leaves_cons (f := 36) (args := #[.pointer (some ⟨w.heap.size, 0, none⟩)]) (by simp) (by simp [go_sem]) ?_
          refine (clear_deferred bs n .returning (hCR.but hb2) (HE.out.2.2.2.2.drewN _) hA ((hb2.cell (p := ⟨w.heap.size, 0, none⟩) hwz hwn).trans cx) (Nat.lt_of_lt_of_le hwz hb2.size) hwn).mono ?_
          rintro e u' w9 ⟨rfl, rfl, h1, h2⟩
          refine ⟨_, results_tmp rfl _ _ _, (But.of_below (below_one w _)).trans (HBU.trans (hb2.trans h1)), .inl ⟨hcf, rfl, h2.congr (fun q _ => ?_)⟩⟩
          simp only [seen_all]
          cases hq : F bs n q with
          | false => simp
          | true => simp [hCF q hq]
end Go.Proofs.YbulkuieFmt
