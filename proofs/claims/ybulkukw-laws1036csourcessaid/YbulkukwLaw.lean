/-
  LawS1036CSources (seat b1036a): it returns true.
-/
import Derived.Test.YbulkukwEnc
namespace Go.Proofs.Ybulkukw
open Go.RowKit

theorem law_big (a0 a1 : Option Addr) (n c0 l1 c1 : Nat) (sign : Int) (w : World) (hn : 1024 < n) (hm : n ≤ maxLen) :
    Calls Yba.prog 3 #[.slice a0 n c0, .slice a1 l1 c1, .int .i64 sign] w fun e w' => e = .returned (.bool true) ∧ Below w.heap.size w w' := by
  unfold maxLen at hm
  go_enter Yba.func3, Yba.ntmps3
  go_wp2_with fail
  go_ret
  exact ⟨rfl, Below.refl _ _⟩

set_option maxRecDepth 100000 in
theorem law_nil (a1 : Option Addr) (l1 c1 : Nat) (sign : Int) (w : World) :
    Calls Yba.prog 3 #[.slice none 0 0, .slice a1 l1 c1, .int .i64 sign] w fun e w' => e = .returned (.bool true) ∧ Below w.heap.size w w' := by
  go_enter Yba.func3, Yba.ntmps3
  go_wp2_with (first | (go_at_call 5; refine (build_nil _ _ _ _).mono ?_; rintro e w' ⟨rfl, rfl⟩) | (go_at_call 6; refine (enc_zero _ _ _ _).mono ?_; rintro e w2 ⟨rfl, hb⟩))
  go_ret
  exact ⟨rfl, hb.alloc hb.size _⟩

set_option maxRecDepth 100000 in
theorem law_zero (x : Addr) (a1 : Option Addr) (c0 l1 c1 : Nat) (sign : Int) (w : World) (hp : ∀ i, i < l1 → ∃ y z, a1 = some y ∧ w.cell? (y.add i) = some (.int .i64 z)) :
    Calls Yba.prog 3 #[.slice (some x) 0 c0, .slice a1 l1 c1, .int .i64 sign] w fun e w' => e = .returned (.bool true) ∧ Below w.heap.size w w' := by
  have B := build_any x 0 c0 l1 c1 a1 (fun _ => 0) w (by omega) (by omega) hp
  go_enter Yba.func3, Yba.ntmps3
  go_wp2_with (first | (go_at_call 5; refine B.mono ?_; rintro e w1 ⟨rfl, hpc, hb1⟩) | (go_at_call 6; refine (enc_zero _ _ _ _).mono ?_; rintro e w2 ⟨rfl, hb⟩))
  go_ret
  have hb2 : Below w.heap.size w w2 := hb1.trans (hb.mono hb1.size)
  exact ⟨rfl, hb2.alloc hb2.size _⟩

/-- The law's world in its loop: the encoder's copy lies at eb. -/
structure Lies (w0 w : World) (eb g g2 cp n : Nat) (sign : Int) (H : Nat → Int) : Prop where
  o4 : eb < w.heap.size
  row : w.rowIs eb 30 3 (fun i => if i = 0 then .slice (some ⟨g, 0, none⟩) 1 cp else if i = 1 then .int .i64 (n : Int) else .int .i64 sign)
  cg : w.cell? ⟨g, 0, none⟩ = some (.slice (some ⟨g2, 0, none⟩) n n)
  src : Srcs w g2 n H n
  bel : Below w0.heap.size w0 w

theorem Lies.below {w0 w w' : World} {eb g g2 cp n : Nat} {sign : Int} {H : Nat → Int} (h : Lies w0 w eb g g2 cp n sign H) (k : Below w.heap.size w w') : Lies w0 w' eb g g2 cp n sign H :=
  { o4 := Nat.lt_of_lt_of_le h.o4 k.size, row := h.row.of_block (k.block eb h.o4), cg := (k.cell (p := ⟨g, 0, none⟩) (World.block_lt_of_cell? _ _ h.cg)).trans h.cg, src := h.src.block (k.block g2 h.src.lt), bel := h.bel.trans (k.mono h.bel.size) }

set_option maxRecDepth 100000 in
set_option maxHeartbeats 1000000 in
theorem law_pos (x : Addr) (a1 : Option Addr) (n c0 l1 c1 : Nat) (sign : Int) (H : Nat → Int) (w : World) (hn0 : 1 ≤ n) (hn : n ≤ 1024) (hh : ∀ i, i < n → w.cell? (x.add i) = some (.int .u64 (H i))) (hp : ∀ i, i < l1 → ∃ y z, a1 = some y ∧ w.cell? (y.add i) = some (.int .i64 z)) :
    Calls Yba.prog 3 #[.slice (some x) n c0, .slice a1 l1 c1, .int .i64 sign] w fun e w' => e = .returned (.bool true) ∧ Below w.heap.size w w' := by
  have B := build_any x n c0 l1 c1 a1 H w hn hh hp
  have HH : Hid _ := hh
  clear hp hh
  go_enter Yba.func3, Yba.ntmps3
  go_wp2_with (first | (go_at_call 5; refine B.mono ?_; rintro e w1 ⟨rfl, hpc, hb1⟩) | (go_at_call 6; refine (enc_any _ _ _ _ _ hn0 hn hpc).mono ?_; rintro e w2 ⟨g, g2, cp, rfl, hcg, hsrc, hb⟩; have hgl : g < w2.heap.size := (World.block_lt_of_cell? _ _ hcg)))
  have HL : Hid (Lies w (w2.alloc (.cells #[.slice (some ⟨g, 0, none⟩) 1 cp, .int .i64 (n : Int), .int .i64 sign] 30)) w2.heap.size g g2 cp n sign H) := by
    have hb2 : Below w.heap.size w w2 := hb1.trans (hb.mono hb1.size)
    have hB := below_one w2 (.cells #[.slice (some ⟨g, 0, none⟩) 1 cp, .int .i64 (n : Int), .int .i64 sign] 30)
    exact { o4 := by simp, row := row3 _ _ _ _, cg := (hB.cell (p := ⟨g, 0, none⟩) hgl).trans hcg, src := hsrc.block (hB.block g2 hsrc.lt), bel := hb2.trans (hB.mono hb2.size) }
  obtain ⟨eb, heb⟩ : ∃ eb, eb = w2.heap.size := ⟨_, rfl⟩
  rw [← heb] at HL ⊢
  obtain ⟨w3, hw3⟩ : ∃ w3, w3 = w2.alloc (.cells #[.slice (some ⟨g, 0, none⟩) 1 cp, .int .i64 (n : Int), .int .i64 sign] 30) := ⟨_, rfl⟩
  rw [← hw3] at HL ⊢
  clear heb hw3 hgl hb hcg hsrc hpc hb1 B
  have hz : ((n : Int) == 0) = false := by simp; omega
  rw [hz]
  clear hz
  go_loopg [9] n (fun k iv wr => ∃ i : Nat, iv = .int .i64 (i : Int) ∧ (i + k = n ∧ Lies w wr eb g g2 cp n sign H))
  case atStart => exact ⟨0, rfl, by omega, HL.out⟩
  case round =>
    clear HL
    obtain ⟨i, rfl, hE⟩ := hrel
    have HE : Hid _ := hE
    clear hE
    by_cases hi : i < n
    · obtain ⟨f, hr, h1⟩ := HE.out.2.src
      obtain ⟨k0, k1, k2⟩ := h1 i hi
      have s0 := hr.cell (i := i * 3) (by omega)
      have s1 := hr.cell (i := i * 3 + 1) (by omega)
      have s2 := hr.cell (i := i * 3 + 2) (by omega)
      rw [k0] at s0
      rw [k1] at s1
      rw [k2] at s2
      clear k0 k1 k2 h1 hr f
      have r0 := HE.out.2.row.cell (i := 0) (by omega)
      simp only [if_true] at r0
      have AT := at_one eb 0 g g2 n cp i wr hi hn r0 HE.out.2.cg
      have ch : wr.cell? (x.add i) = some (.int .u64 (H i)) := (HE.out.2.bel.cell (p := x.add i) (World.block_lt_of_cell? _ _ (HH.out i hi))).trans (HH.out i hi)
      go_wp2_with (go_at_call 7; refine AT.mono ?_; rintro e w' ⟨rfl, hw'⟩; rw [hw']; clear hw' AT)
      obtain ⟨wv, hwv⟩ : ∃ wv, wv = wr.alloc (.cells #[.int .u64 (H i), .int .u64 (H i), .int .u64 0] 37) := ⟨_, rfl⟩
      rw [← hwv]
      have HV : Hid (Lies w wv eb g g2 cp n sign H) := by
        refine HE.out.2.below ?_
        rw [hwv]
        exact below_one _ _
      obtain ⟨vb, hvb⟩ : ∃ vb, vb = wr.heap.size := ⟨_, rfl⟩
      rw [← hvb]
      have v0 : wv.cell? ⟨vb, 0, none⟩ = some (.int .u64 (H i)) := by rw [hwv, hvb]; simp [go_sem]
      have v1 : wv.cell? ⟨vb, 1, none⟩ = some (.int .u64 (H i)) := by rw [hwv, hvb]; simp [go_sem]
      have v2 : wv.cell? ⟨vb, 2, none⟩ = some (.int .u64 0) := by rw [hwv, hvb]; simp [go_sem]
      have ch2 : wv.cell? (x.add i) = some (.int .u64 (H i)) := (HV.out.bel.cell (p := x.add i) (World.block_lt_of_cell? _ _ (HH.out i hi))).trans (HH.out i hi)
      clear hwv hvb s0 s1 s2 r0 ch
      go_quiet (fail)
      go_wp2_with fail
      go_roundg (gk - 1)
      case measure => have := HE.out.1; omega
      case rel => exact ⟨i + 1, by go_num, by have := HE.out.1; omega, HV.out.below (below_drewN (Below.refl _ _) _)⟩
    · have hin : i = n := by have := HE.out.1; omega
      subst hin
      go_wp2_with fail
      go_ret
      exact ⟨rfl, HE.out.2.bel⟩
end Go.Proofs.Ybulkukw
