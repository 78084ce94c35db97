/-
  LawS1031CSound (seat b1031aF): the walk.
-/
import Derived.Test.YbulkuieFmtCBuild
import Derived.BigQuiet
namespace Go.Proofs.YbulkuieFmt
open Go.RowKit C

theorem bits_words {x y : Nat → Nat} {L : Nat} {C : Nat → Bool} (hx : ∀ q, q < L → x q < 18446744073709551616) (hy : ∀ q, q < L → y q < 18446744073709551616)
    (cx : ∀ p, p < 64 * L → (x (p / 64)).testBit (p % 64) = C p) (cy : ∀ p, p < 64 * L → (y (p / 64)).testBit (p % 64) = C p) (q : Nat) (hq : q < L) : x q = y q := by
  apply Nat.eq_of_testBit_eq
  intro j
  by_cases hj : j < 64
  · have h1 := cx (64 * q + j) (by omega)
    have h2 := cy (64 * q + j) (by omega)
    have e1 : (64 * q + j) / 64 = q := by omega
    have e2 : (64 * q + j) % 64 = j := by omega
    rw [e1, e2] at h1 h2
    rw [h1, h2]
  · have hp : 2 ^ 64 ≤ 2 ^ j := Nat.pow_le_pow_right (by decide) (by omega)
    rw [Nat.testBit_lt_two_pow (Nat.lt_of_lt_of_le (hx q hq) hp), Nat.testBit_lt_two_pow (Nat.lt_of_lt_of_le (hy q hq) hp)]

theorem B_names (bs : Nat → Blk) (n t : Nat) {C : Nat → Bool} (hC : ∀ p, B bs n p = true → C p = true) : Names C (pos bs n) (slotOf (objs bs n) t) := by
  rcases slotOf_names bs n t with h | ⟨p, h, hp⟩
  · exact .inl h
  · obtain ⟨i, hi, _, e⟩ := objs_mem bs hp
    exact .inr ⟨p, h, by have := pos_lt bs hi; omega, hC p ((B_iff bs).2 hp)⟩

theorem B_F (bs : Nat → Blk) (n p : Nat) (h : F bs n p = true) : B bs n p = false ∧ p < pos bs n := by
  obtain ⟨i, hi, hf, rfl⟩ := (F_iff bs).1 h
  exact ⟨by rw [B_pos bs hi, hf]; rfl, by have := pos_lt bs hi; omega⟩

/-- The rows give what the walks of Verify want. -/
theorem laid_of {bs : Nat → Blk} {n : Nat} {rs : Nat → Nat} {m0 : Nat} {w : World} {hb ab sb rb L : Nat} {nz m mc : Nat} {R : Nat → Nat} {foot : Int} {C : Nat → Bool} {a : Addr} {s : ByteArray} {H : Nat → Value}
    (hS : Sent w 4 a s) (hg4 : 4 ≠ sb) (hga : a.block ≠ sb) (hn : n ≤ 1024) (hm : m0 ≤ 1024) (nh : hb ≠ sb) (na : ab ≠ sb) (nr : rb ≠ sb) (lr : rb < w.heap.size) (hL : L = pos bs n / 64 + 2)
    (arena : w.rowIs ab 24 (pos bs n) (fun i => .int .u64 ((A3 bs (objs bs n) (A2 bs n) n i : Nat) : Int))) (hC : BitsAt w sb L C) (hp : w.rowIs hb 53 89 H) (his : HIs H ab sb (pos bs n) L (fun z => lnk (chain bs z n)) nz)
    (h79 : H 79 = .slice (some ⟨rb, 0, none⟩) m mc) (h80 : H 80 = .int .i64 ((lnk (dchain rs m0) : Nat) : Int)) (h85 : H 85 = .int .i64 foot) (h87 : H 87 = .int .i64 (((pos bs n : Int) + 16 + 100) * 8))
    (hcr : ∀ i, i < m → w.cell? ⟨rb, i, none⟩ = some (.int .u64 ((R i : Nat) : Int))) (hR : ∀ i, i < m0 → R i = rootOf rs (objs bs n) i) (hCB : ∀ p, B bs n p = true → C p = true) (hCF : ∀ p, p < pos bs n → B bs n p = false → C p = false) (hnl : nz < 18446744073709551616) :
    Laid bs n rs m0 w hb ab sb rb L (A3 bs (objs bs n) (A2 bs n) n) (fun z => lnk (chain bs z n)) nz m mc R (lnk (dchain rs m0)) foot C a s := by
  have hpb := pos_bound bs n
  have hc : ∀ i v, H i = v → i < 89 → w.cell? ⟨hb, i, none⟩ = some v := fun i v h hi => by rw [hp.cell hi, h]
  refine { h := { lh := hp.lt, la := arena.lt, lr := lr, nh := nh, na := na, nr := nr, ht := by omega, hL := by omega, hLt := by omega, c4 := hc 4 _ his.h4 (by omega), c6 := hc 6 _ his.h6 (by omega), c7 := hc 7 _ his.h7 (by omega), c9 := hc 9 _ his.h9 (by omega), cs := fun z hz => hc _ _ (his.hs z hz) (by omega), c74 := hc 74 _ his.h74 (by omega), c75 := hc 75 _ his.h75 (by omega), c79 := hc 79 _ h79 (by omega), c80 := hc 80 _ h80 (by omega), c85 := hc 85 _ h85 (by omega), c87 := hc 87 _ h87 (by omega), ca := fun i hi => arena.cell hi, cr := hcr },
           hC := hC, hS := hS, hg4 := hg4, hga := hga, hn := hn, hm := hm, hA := fun k hk => A3_hdr bs _ n hk, hAl := fun k hk hf => A3_link bs _ n hk hf, hSl := fun k hk hf j hj => ?_, hsm := fun z _ => rfl, hnl := hnl, hR := hR, hN := fun i _ => B_names bs n _ hCB, hdr := rfl,
           hB := fun k hk hf => hCB _ (by rw [B_pos bs hk, hf]; rfl), hCF := fun p h => hCF p (B_F bs n p h).2 (B_F bs n p h).1 }
  rw [A3_slot bs _ n hk hk hf j hj]
  exact B_names bs n _ hCB

theorem ne_lt64 (bs : Nat → Blk) (n : Nat) : ne bs n < 18446744073709551616 := Nat.lt_trans (ne_lt bs n) (by decide)

theorem add0 (b j : Nat) : (⟨b, 0, none⟩ : Addr).add j = ⟨b, j, none⟩ := by
  unfold Addr.add
  split
  · rename_i h; subst h; rfl
  · simp

/-- Behind the build and the copy. -/
theorem sound_mid {bs : Nat → Blk} {n : Nat} {rs : Nat → Nat} {m : Nat} {w w1 : World} {hb ab sb rb L : Nat} {H : Nat → Value} (D : Done bs n rs m w w1 hb ab sb rb L H) (hn : n ≤ 1024) (hm : m ≤ 1024) (a : Addr) (s : ByteArray) (hS : Sent w 4 a s) :
    ∃ (w3 : World) (x : Nat → Nat), (Builtin.copy_ #[22, 41] 3 #[.slice (some ⟨w1.heap.size, 0, none⟩) L L, .slice (some ⟨sb, 0, none⟩) L L]).run Ybaf.prog (w1.alloc (.cells (madeCells #[.int .u64 0] L) 24)) = .ok (.int .i64 L) w3 ∧
      w3.cell? ⟨hb, 9, none⟩ = some (.slice (some ⟨sb, 0, none⟩) L L) ∧ L ≤ 200 ∧ w1.heap.size ≠ sb ∧ hb ≠ sb ∧ hb < w3.heap.size ∧
      Below w.heap.size w w3 ∧ w3.rowIs w1.heap.size 24 L (fun i => .int .u64 ((x i : Nat) : Int)) ∧ w.heap.size ≤ sb ∧
      Calls Ybaf.prog 11 #[.pointer (some ⟨hb, 0, none⟩)] w3 fun e w' => e = .returned .nilIface ∧ But sb w3 w' ∧ w'.rowIs sb 24 L (fun i => .int .u64 ((x i : Nat) : Int)) := by
  have h1 := D.o1; have h2 := D.o2; have h3 := D.o3; have h4 := D.o4; have h5 := D.o5
  have hz := D.bel.size
  have hpb := pos_bound bs n
  have hLL := D.hL
  obtain ⟨x, hx1, hx2, hx3⟩ := D.bits
  have hx1' : w1.rowIs sb 24 L (fun i => .int .u64 ((x i : Nat) : Int)) := hx1
  obtain ⟨w3, hcp, hrow3, hB3, hoth3, hz3⟩ := copy_rows 22 41 3 Ybaf.underlying22 (w1.alloc (.cells (madeCells #[.int .u64 0] L) 24)) w1.heap.size 0 L L ⟨sb, 0, none⟩ L L L L (fun _ => .int .u64 0) (fun i => .int .u64 ((x i : Nat) : Int)) (World.rowIs_made w1 (.int .u64 0) L 24) (by omega)
    (fun j hj => by rw [add0]; exact (hx1'.alloc _).cell hj) (by omega) (fun _ _ => rfl)
  have hB13 : Below w1.heap.size w1 w3 := (below_one w1 _).trans (hB3 w1.heap.size (Nat.le_refl _))
  have hS3 : Sent w3 4 a s := (hS.mono (Nat.le_refl _) D.bel).mono (Nat.le_refl _) hB13
  have hsl := hS.lg
  have hsa := hS.la
  have LD := laid_of (bs := bs) (n := n) (rs := rs) (m0 := m) (w := w3) (hb := hb) (ab := ab) (sb := sb) (rb := rb) (L := L) (nz := ne bs n) (m := m) (mc := m) (R := rootOf rs (objs bs n)) (foot := (100 + ((ow bs n : Nat) : Int)) * 8) (C := B bs n) (H := H)
    hS3 (by omega) (by omega) hn hm (by omega) (by omega) (by omega) (Nat.lt_of_lt_of_le h5 hB13.size) hLL (D.arena.of_block (hB13.block _ (by omega))) (D.bits.of_block (hB13.block _ (by omega))) (D.hp.of_block (hB13.block _ (by omega))) D.his D.h79 D.h80 D.h85 D.h87
    (fun i hi => (D.roots.of_block (hB13.block _ h5)).cell hi) (fun _ _ => rfl) (fun _ h => h) (fun _ _ h => h) (ne_lt64 bs n)
  have V := verify_sound LD (cnt_B bs n (64 * L) (by omega)) rfl (fun z _ => ne_bit bs n z)
  have c9 := D.hp.cell (i := 9) (by omega)
  rw [D.his.h9] at c9
  refine ⟨w3, x, hcp, (hB13.cell (p := ⟨hb, 9, none⟩) (by show hb < _; omega)).trans c9, by omega, by omega, by omega, Nat.lt_of_lt_of_le (by omega) hB13.size, D.bel.trans (hB13.mono hz), hrow3.congr (fun i hi => by rw [if_pos ⟨by omega, by omega⟩]; rfl), by omega, V.mono ?_⟩
  rintro e w' ⟨rfl, hb4, y, hy1, hy2, hy3⟩
  exact ⟨rfl, hb4, World.rowIs.congr hy1 (fun i hi => by rw [bits_words hx2 hy2 hx3 hy3 i hi])⟩

set_option maxRecDepth 100000 in
set_option maxHeartbeats 1000000 in
theorem sound_in (bs : Nat → Blk) (n cn : Nat) (rs : Nat → Nat) (m cm : Nat) (ao ro : Option Addr) (w : World) (hn : n ≤ 1024) (hm : m ≤ 1024) (hb : ∀ k, k < n → BlkIn w ao (bs k) k) (hr : ∀ i, i < m → RootIn w ro (rs i) i) (a : Addr) (s : ByteArray) (hS : Sent w 4 a s) :
    Calls Ybaf.prog 5 #[.slice ao n cn, .slice ro m cm] w fun e w' => e = .returned (.bool true) ∧ Below w.heap.size w w' := by
  have K10 := build_any bs n cn rs m cm ao ro w hn hm hb hr
  go_enter Ybaf.func5, Ybaf.ntmps5
  go_wp2_with (first
    | (go_at_call 10; refine K10.mono ?_; rintro e w1 ⟨hb', ab, sb, rb, L, H, rfl, D⟩; obtain ⟨w3, x, hcp, c9, hL2, hn1, hn2, hl3, hB3, hrow, hsb, V⟩ := sound_mid D hn hm a s hS; have c9a := D.hp.cell (i := 9) (by omega); rw [D.his.h9] at c9a; have hlh : hb' < w1.heap.size := Nat.lt_trans D.o4 D.o5; have c9b : (w1.alloc (.cells (madeCells #[.int .u64 0] L) 24)).cell? ⟨hb', 9, none⟩ = some (.slice (some ⟨sb, 0, none⟩) L L) := ((below_one w1 _).cell (p := ⟨hb', 9, none⟩) hlh).trans c9a; have hmk := run_make_row' (P := Ybaf.prog) 22 24 (.int .u64 0) 8 Ybaf.underlying22 info24 rfl .i64 .i64 L (by omega) (by omega); have HB3 : Hid _ := hB3; have HROW : Hid (w3.rowIs w1.heap.size 24 L (fun i => .int .u64 ((x i : Nat) : Int))) := hrow; clear D hB3 hrow)
    | (go_at_call 11; refine V.mono ?_; rintro e w4 ⟨rfl, hb4, hrow4⟩; have c9c := (hb4.cell (p := ⟨hb', 9, none⟩) hl3 hn2).trans c9))
  have hrowb : w4.rowIs w1.heap.size 24 L (fun i => .int .u64 ((x i : Nat) : Int)) := World.rowIs.of_block (w := w3) HROW.out (hb4.block _ (World.rowIs.lt (w := w3) (t := 24) (n := L) (f := fun i => .int .u64 ((x i : Nat) : Int)) HROW.out) hn1)
  have HEND : Hid (Below w.heap.size w w4) := (HB3.out).trans (hb4.below HB3.out.size hsb)
  clear V hmk hcp c9 c9a c9b K10
  obtain ⟨bb, hbb⟩ : ∃ bb, bb = w1.heap.size := ⟨_, rfl⟩
  rw [← hbb] at hrowb ⊢
  clear hbb
  go_loopg [44] L (fun g iv wr => ∃ i d : Nat, iv = .int .i64 (i : Int) ∧ (i + g = L ∧ wr = w4.drewN d))
  case atStart => exact ⟨0, 0, rfl, by omega, rfl⟩
  case round =>
    obtain ⟨i, d, rfl, hE⟩ := hrel
    have HE : Hid _ := hE
    have e0 : ∀ a, wr.cell? a = w4.cell? a := fun a => by rw [hE.2, World.cell?_drewN]
    have c9d := (e0 _).trans c9c
    clear hE
    by_cases hi : i < L
    · have cb := (e0 _).trans (hrowb.cell hi)
      have cs := (e0 _).trans (hrow4.cell hi)
      clear e0
      go_wp2_with fail
      go_quiet (fail)
      go_wp2_with fail
      go_roundg (gk - 1)
      case measure => have := HE.out.1; omega
      case rel => exact ⟨i + 1, d + nq, by go_num, by have := HE.out.1; omega, by rw [HE.out.2, World.drewN_drewN]⟩
    · have hiL : i = L := by have := HE.out.1; omega
      go_wp2_with fail
      go_ret
      exact ⟨rfl, by rw [HE.out.2]; exact below_drewN HEND.out d⟩

set_option maxRecDepth 100000 in
theorem sound_long (n cn m cm : Nat) (ao ro : Option Addr) (w : World) (h : 1024 < n ∨ 1024 < m) (hn : n ≤ 9223372036854775807) (hm : m ≤ 9223372036854775807) :
    Calls Ybaf.prog 5 #[.slice ao n cn, .slice ro m cm] w fun e w' => e = .returned (.bool true) ∧ Below w.heap.size w w' := by
  by_cases h1 : 1024 < n
  · have hd : decide ((1024 : Int) < (n : Int)) = true := by simp; omega
    go_enter Ybaf.func5, Ybaf.ntmps5
    go_wp2_with fail
    go_ret
    exact ⟨rfl, Below.refl _ _⟩
  · have h2 : 1024 < m := by omega
    have hd : decide ((1024 : Int) < (n : Int)) = false := by simp; omega
    have hd2 : decide ((1024 : Int) < (m : Int)) = true := by simp; omega
    go_enter Ybaf.func5, Ybaf.ntmps5
    go_wp2_with fail
    go_ret
    exact ⟨rfl, Below.refl _ _⟩
end Go.Proofs.YbulkuieFmt
