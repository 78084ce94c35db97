/-
  verifyRoots on a heap that the C laws lay (seat b1031aF).
-/
import Derived.Test.YbulkuieFmtCSlots
import Derived.Test.YbulkuieFmtBRefuse
import Derived.Test.YbulkuieFmtErrs
namespace Go.Proofs.YbulkuieFmt
open Go.RowKit C

theorem root_dropped (i l : Nat) (hl : l < 4294967296) : (bits .and .u64 ((9223372036854775808 + (i % 256) * 4294967296 + l : Nat) : Int) 9223372036854775808 != 0) = true ∧ bits .and .u64 ((9223372036854775808 + (i % 256) * 4294967296 + l : Nat) : Int) 4294967295 = (l : Int) := by
  have h1 : i % 256 < 256 := Nat.mod_lt _ (by decide)
  generalize i % 256 = j at *
  rw [and63 _ (by omega), and32 _ (by omega)]
  constructor
  · rw [bne_iff_ne]; omega
  · omega
theorem root_held (i l : Nat) (hl : l < 4294967296) : (bits .and .u64 (((i % 256) * 4294967296 + l : Nat) : Int) 9223372036854775808 != 0) = false ∧ bits .and .u64 (((i % 256) * 4294967296 + l : Nat) : Int) 4294967295 = (l : Int) := by
  have h1 : i % 256 < 256 := Nat.mod_lt _ (by decide)
  generalize i % 256 = j at *
  rw [and63 _ (by omega), and32 _ (by omega)]
  constructor
  · rw [bne_eq_false_iff_eq]; omega
  · omega

/-- How many of the first i roots are dropped. -/
theorem dchain_succ (rs : Nat → Nat) (i : Nat) : dchain rs (i + 1) = if rs i % 4 = 0 then i :: dchain rs i else dchain rs i := rfl

set_option maxRecDepth 100000 in
set_option maxHeartbeats 1000000 in
theorem roots_any (rs : Nat → Nat) (O : List Nat) (m0 : Nat) (cor : Bool) {w : World} {hb ab sb rb top L : Nat} {A sm : Nat → Nat} {nz m mc : Nat} {R : Nat → Nat} {dr : Nat} {foot : Int} {C : Nat → Bool} {a : Addr} {s : ByteArray}
    (h : CR w hb ab sb rb top L A sm nz m mc R dr foot) (hC : BitsAt w sb L C) (hS : Sent w 4 a s) (hR : ∀ i, i < m0 → R i = rootOf rs O i) (hN : ∀ i, i < m0 → Names C top (slotOf O (rs i))) (hdr : dr = lnk (dchain rs m0)) (hm : m0 ≤ 1024)
    (hcor : (cor = false ∧ m = m0) ∨ (cor = true ∧ m = m0 + 1 ∧ R m0 = top + 1)) :
    Calls Ybaf.prog 25 #[.pointer (some ⟨hb, 0, none⟩)] w fun e w' => Below w.heap.size w w' ∧ ((cor = false ∧ e = .returned .nilIface ∧ w' = w) ∨ (cor = true ∧ ∃ t x, e = .returned (.iface t x) ∧ ErrAt w' t x a)) := by
  have ht := h.ht
  have c79 := h.c79
  have c80 := h.c80
  have hm1 : m0 ≤ m := by rcases hcor with ⟨_, h⟩ | ⟨_, h, _⟩ <;> omega
  have hm2 : m ≤ 1025 := by rcases hcor with ⟨_, h⟩ | ⟨_, h, _⟩ <;> omega
  have HR : Hid (∀ i, i < m0 → R i = rootOf rs O i) := hR
  have HC : Hid _ := hcor
  have HDR : Hid (dr = lnk (dchain rs m0)) := hdr
  have hdl : dr ≤ 1024 := by have := dchain_lnk_le rs m0; omega
  clear hR hdr hcor
  have cg := hS.cg
  go_enter Ybaf.func25, Ybaf.ntmps25
  go_wp2_with fail
  go_loopg [18, 4] m (fun g iv dv wr => ∃ i d : Nat, iv = .int .i64 (i : Int) ∧ dv = .int .i64 (d : Int) ∧ w = wr ∧ (i + g = m ∧ i ≤ m ∧ d = (dchain rs i).length ∧ i ≤ m0))
  case atStart => exact ⟨0, 0, rfl, rfl, rfl, by omega, by omega, rfl, by omega⟩
  case round =>
    obtain ⟨i, d, rfl, rfl, rfl, hE⟩ := hrel
    have HE : Hid _ := hE
    clear hE
    have hi1 : i ≤ 1025 := by have := HE.out.1; omega
    have hdi : d ≤ 1024 := by have := dchain_length_le rs i; have := HE.out.2.2.1; have := HE.out.2.2.2; omega
    by_cases hi0 : i < m0
    · have ci := h.cr i (by omega)
      rw [HR.out i hi0] at ci
      by_cases h4 : rs i % 4 = 0
      · have hq := root_dropped i (lnk (dchain rs i)) (by have := dchain_lnk_le rs i; omega)
        have hrt : rootOf rs O i = 9223372036854775808 + (i % 256) * 4294967296 + lnk (dchain rs i) := by unfold rootOf; rw [if_pos h4]
        rw [← hrt] at hq
        have hF := hq.1
        generalize rootOf rs O i = rv at *
        clear hq hrt
        have H4 : Hid (rs i % 4 = 0) := h4
        clear h4
        go_wp2_with fail
        go_roundg (gk - 1)
        case measure => have := HE.out.1; omega
        case rel => exact ⟨i + 1, d + 1, by go_num, by go_num, rfl, by have := HE.out.1; omega, by omega, by rw [dchain_succ, if_pos H4.out, List.length_cons, HE.out.2.2.1], by omega⟩
      · have hsl : slotOf O (rs i) ≤ 10001 := by rcases hN i hi0 with h | ⟨p, h, h', _⟩ <;> omega
        have hq := root_held i (slotOf O (rs i)) (by omega)
        have hrt : rootOf rs O i = (i % 256) * 4294967296 + slotOf O (rs i) := by unfold rootOf; rw [if_neg h4]
        rw [← hrt] at hq
        have hF := hq.1
        have hG := hq.2
        have HOB := isObj_yes h hC (slotOf O (rs i)) (hN i hi0)
        generalize rootOf rs O i = rv at *
        generalize slotOf O (rs i) = sv at *
        clear hq hrt
        have H4 : Hid (¬ rs i % 4 = 0) := h4
        clear h4
        go_wp2_with (go_at_call 35; refine HOB.mono ?_; rintro e w' ⟨rfl, hw'⟩; rw [hw'])
        go_roundg (gk - 1)
        case measure => have := HE.out.1; omega
        case rel => exact ⟨i + 1, d, by go_num, rfl, rfl, by have := HE.out.1; omega, by omega, by rw [dchain_succ, if_neg H4.out, HE.out.2.2.1], by omega⟩
    · have him : i = m0 := by have := HE.out.2.2.2; omega
      rcases HC.out with ⟨rfl, hmm⟩ | ⟨rfl, hmm, hRm⟩
      · have hil : i = m := by omega
        subst hil
        have HD : Hid (d = (dchain rs m0).length) := by have := HE.out.2.2.1; rw [him] at this; exact this
        have hdm : d ≤ 1024 := hdi
        clear him
        go_wp2_with fail
        go_loopg [7, 8] (dchain rs m0).length (fun g cv lv wr => ∃ (a r : List Nat) (c l : Nat), cv = .int .i64 (c : Int) ∧ lv = .int .i64 (l : Int) ∧ w = wr ∧ (dchain rs m0 = a ++ r ∧ g = r.length ∧ l = lnk r ∧ c = a.length))
        case atStart => exact ⟨[], dchain rs m0, 0, dr, rfl, rfl, rfl, rfl, rfl, HDR.out, rfl⟩
        case round =>
          obtain ⟨av, r, c, l, rfl, rfl, rfl, hE2⟩ := hrel
          have HE2 : Hid _ := hE2
          clear hE2
          have hcd : c + r.length = d := by rw [HD.out, HE2.out.1, List.length_append, HE2.out.2.2.2]
          cases r with
          | nil =>
            have hl0 : l = 0 := HE2.out.2.2.1
            subst hl0
            have hcd' : c = d := by simpa using hcd
            subst hcd'
            go_wp2_with fail
            go_ret
            exact ⟨Below.refl _ _, rfl, rfl⟩
          | cons p r =>
            obtain ⟨hp, hp4, hr⟩ := dchain_suffix rs HE2.out.1
            have hlp : l = p + 1 := HE2.out.2.2.1
            subst hlp
            have cp := h.cr p (by omega)
            rw [HR.out p hp] at cp
            have hq := root_dropped p (lnk (dchain rs p)) (by have := dchain_lnk_le rs p; omega)
            have hrt : rootOf rs O p = 9223372036854775808 + (p % 256) * 4294967296 + lnk (dchain rs p) := by unfold rootOf; rw [if_pos hp4]
            rw [← hrt] at hq
            have hF : (bits .and .u64 ((rootOf rs O p : Nat) : Int) 9223372036854775808 == 0) = false := by have := hq.1; rw [bne, Bool.not_eq_true'] at this; exact this
            have hG := hq.2
            have hll : lnk (dchain rs p) ≤ 1024 := by have := dchain_lnk_le rs p; omega
            obtain ⟨lr, hlr⟩ : ∃ lr, lr = lnk (dchain rs p) := ⟨_, rfl⟩
            rw [← hlr] at hG hll
            have HLR : Hid (lr = lnk r) := by show _ = _; rw [hlr, hr]
            generalize rootOf rs O p = rv at *
            clear hq hrt hlr
            have hcl : c + 1 ≤ d := by simp at hcd; omega
            have e1 : ((c : Int) == (d : Int)) = false := by simp; omega
            have HCD : Hid (c + (p :: r).length = d) := hcd
            clear hcd hr
            go_wp2_with fail
            go_roundg (gk - 1)
            case measure => have := HE2.out.2.1; simp at this; omega
            case rel => exact ⟨av ++ [p], r, c + 1, lr, by go_num, rfl, rfl, by rw [List.append_assoc]; exact HE2.out.1, by have := HE2.out.2.1; simp at this; omega, HLR.out, by have := HE2.out.2.2.2; simp; omega⟩
      · have ci := h.cr i (by omega)
        rw [him, hRm] at ci
        have hq := root_held 0 (top + 1) (by omega)
        simp only [Nat.zero_mod, Nat.zero_mul, Nat.zero_add] at hq
        have hF := hq.1
        have hG := hq.2
        have HOB := isObj_no h
        rw [← him] at ci
        have hS3 := hS.mono (Nat.le_refl _) (below_one w (.cells #[.iface 99 (.pointer (some a)), .iface 3 (.int .i64 ((i : Int) + 1)), .iface 24 (.int .u64 ((top + 1 : Nat) : Int))] 20))
        have ca3 := hS3.ca
        obtain ⟨tp, htp⟩ : ∃ tp, tp = top + 1 := ⟨_, rfl⟩
        rw [← htp] at ci hF hG HOB ca3
        have him2 : i < m := by omega
        clear htp hq him hRm
        go_wp2_with (first
          | (go_at_call 35; refine HOB.mono ?_; rintro e w' ⟨rfl, hw'⟩; rw [hw'])
          | (go_at_call 22; refine (errorf_root _ a s ((i : Int) + 1) ((tp : Nat) : Int) _ ca3 (by simp [go_sem]) (by simp [go_sem]) (by simp [go_sem])).mono ?_; rintro e w' ⟨txt, rfl, rfl⟩))
        go_ret
        have := errs_end (below_one w (.cells #[.iface 99 (.pointer (some a)), .iface 3 (.int .i64 ((i : Int) + 1)), .iface 24 (.int .u64 ((tp : Nat) : Int))] 20)) (Nat.le_refl _) txt a (by simp; rfl)
        exact ⟨this.2, _, _, rfl, this.1⟩
end Go.Proofs.YbulkuieFmt
