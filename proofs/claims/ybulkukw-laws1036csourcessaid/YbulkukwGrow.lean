/-
  blockList.grow at an empty list (seat b1036a).
-/
import Derived.Test.YbulkukwSmall
import Derived.OwnWalk
import Derived.Laws.AppendOwn
import Derived.Deep.OwnRows
import Derived.BigQuiet
import Derived.Laws.OwnMore
import Derived.Deep.AppendLies
import Derived.WalkSmall
namespace Go.Proofs.Ybulkukw
open Go.RowKit

theorem info32 : (Yba.prog.info? 32).map (fun i => (i.zero, i.size, i.bytes)) = some (some (.slice none 0 0), 1, 24) := by kernel_rfl
theorem info37 : (Yba.prog.info? 37).map (fun i => (i.zero, i.size, i.bytes)) = some (some (.agg #[.int .u64 0, .int .u64 0, .int .u64 0]), 3, 24) := by kernel_rfl

/-- make of sources: len 0, cap n. -/
theorem make_src (n : Nat) (hn : n ≤ 1024) (w : World) : (Instr.makeSlice 32 (.int .i64 0) (.int .i64 (n : Int))).run Yba.prog w = .ok (.slice (some ⟨w.heap.size, 0, none⟩) 0 n) (w.alloc (.cells (madeCells #[.int .u64 0, .int .u64 0, .int .u64 0] (n * 3)) 37)) := by
  obtain ⟨i, hi, hzz⟩ := Option.map_eq_some_iff.1 info37
  simp only [Prod.mk.injEq] at hzz
  obtain ⟨hz, hs, hb⟩ := hzz
  have hr := run_make (P := Yba.prog) w 32 37 i _ Yba.underlying32 hi hz .i64 .i64 0 n (Int.le_refl _) (by omega) (by rw [hb]; omega) (by omega)
  simp only [Int.toNat_zero, Int.toNat_natCast, hs] at hr
  exact hr

theorem own_form {w : World} {base n : Nat} {e : TypeId} {v : Value} {xs : List Value} (h : w.ownsRow base e 1 v n xs) (hn : 0 < n) : ∃ g cap, v = .slice (some ⟨g, 0, none⟩) n cap := by
  rcases h.2 with ⟨_, h0⟩ | ⟨g, cap, cur, hv, _⟩
  · omega
  · exact ⟨g, cap, hv⟩

theorem made3 (n i : Nat) (h : i < n) : (madeCells #[.int .u64 0, .int .u64 0, .int .u64 0] n)[i]? = some (.int .u64 0) := by
  have h3 : i % 3 = 0 ∨ i % 3 = 1 ∨ i % 3 = 2 := by omega
  rcases h3 with h3 | h3 | h3 <;> simp [madeCells, h, h3]

/-- Of the blocks that lay in w all but b are as they were. -/
structure But (b : Nat) (w w' : World) : Prop where
  os : w'.os = w.os
  tape : w'.tape = w.tape
  output : w'.output = w.output
  size : w.heap.size ≤ w'.heap.size
  block : ∀ k, k < w.heap.size → k ≠ b → w'.heap[k]? = w.heap[k]?
theorem But.refl (b : Nat) (w : World) : But b w w := ⟨rfl, rfl, rfl, Nat.le_refl _, fun _ _ _ => rfl⟩
theorem But.below {b : Nat} {w w' w'' : World} (h : But b w w') (k : Below w'.heap.size w' w'') : But b w w'' := ⟨k.os.trans h.os, k.tape.trans h.tape, k.output.trans h.output, Nat.le_trans h.size k.size, fun i hi hn => (k.block i (Nat.lt_of_lt_of_le hi h.size)).trans (h.block i hi hn)⟩
theorem But.set {b : Nat} {w w' : World} (h : But b w w') (c i : Nat) (v : Value) (hc : c = b ∨ w.heap.size ≤ c) : But b w (w'.setCell ⟨c, i, none⟩ v) :=
  ⟨h.os, h.tape, h.output, by simpa using h.size, fun k hk hn => (Deep.blk_setCell_other _ _ _ _ (by show k ≠ c; omega)).trans (h.block k hk hn)⟩

/-- A list of one block of n sources lies at block b. -/
structure Grown (w w' : World) (b g g2 cp n : Nat) (E : Nat → Value) : Prop where
  but : But b w w'
  o1 : w.heap.size ≤ g
  o2 : g < g2
  row : w'.rowIs b 30 3 (fun i => if i = 1 then .int .i64 (n : Int) else if i = 0 then .slice (some ⟨g, 0, none⟩) 1 cp else E i)
  cg : w'.cell? ⟨g, 0, none⟩ = some (.slice (some ⟨g2, 0, none⟩) n n)
  src : w'.rowIs g2 37 (n * 3) (fun _ => .int .u64 0)

set_option maxRecDepth 100000 in
set_option maxHeartbeats 1000000 in
theorem grow_any (b n : Nat) (w : World) (E : Nat → Value) (hn0 : 1 ≤ n) (hn : n ≤ 1024) (hrow : w.rowIs b 30 3 E) (hE0 : E 0 = .slice none 0 0) (hE1 : E 1 = .int .i64 0) :
    Calls Yba.prog 8 #[.pointer (some ⟨b, 0, none⟩), .int .i64 (n : Int)] w fun e w' => e = .returned (.tuple #[]) ∧ ∃ g g2 cp, Grown w w' b g g2 cp n E := by
  have hb := hrow.lt
  have c0 := hrow.cell (i := 0) (by omega)
  have c1 := hrow.cell (i := 1) (by omega)
  rw [hE0] at c0
  rw [hE1] at c1
  have f0 := hrow.frozen 0
  have f1 := hrow.frozen 1
  obtain ⟨i0, hi0, hzz⟩ := Option.map_eq_some_iff.1 info32
  simp only [Prod.mk.injEq] at hzz
  obtain ⟨hz0, hz1, hz2⟩ := hzz
  have hd0 : decide ((0 : Int) < (n : Int)) = true := by simp; omega
  go_enter Yba.func8, Yba.ntmps8
  go_wp2_with fail
  refine wp_loop_rounds 2 ?_
  rw [rounds_succ]
  go_wp2_with fail
  obtain ⟨cp, hcp⟩ : ∃ cp, cp = (Question.appendCap 1 0 32).cut (w.tape w.drawn (Question.appendCap 1 0 32)) := ⟨_, rfl⟩
  rw [← hcp]
  clear hcp
  obtain ⟨g, hg⟩ : ∃ g, g = w.heap.size + 1 := ⟨_, rfl⟩
  rw [← hg]
  obtain ⟨wS, hwS⟩ : ∃ wS, wS = w.setCell ⟨b, 0, none⟩ (.slice (some ⟨g, 0, none⟩) 1 cp) := ⟨_, rfl⟩
  rw [← hwS]
  obtain ⟨w3, hw3⟩ : ∃ w3, w3 = ((wS.alloc (.cells #[.slice none 0 0] 32)).alloc (.cells (#[.slice none 0 0] ++ Builtin.zeroCells #[.slice none 0 0] (cp - 1)) 32)).drew := ⟨_, rfl⟩
  rw [← hw3]
  have hSz : wS.heap.size = w.heap.size := by rw [hwS]; simp
  have hBS : Below wS.heap.size wS w3 := by rw [hw3]; exact ((below_one wS _).alloc (by simp) _).drew
  have d0 : w3.cell? ⟨b, 0, none⟩ = some (.slice (some ⟨g, 0, none⟩) 1 cp) := (hBS.cell (p := ⟨b, 0, none⟩) (by rw [hSz]; exact hb)).trans (by rw [hwS]; simp [go_sem, c0])
  have d1 : w3.cell? ⟨b, 1, none⟩ = some (.int .i64 0) := (hBS.cell (p := ⟨b, 1, none⟩) (by rw [hSz]; exact hb)).trans (by rw [hwS]; simp [go_sem, c1])
  have dg : w3.cell? ⟨g, 0, none⟩ = some (.slice none 0 0) := by
    rw [hw3, hg, ← hSz]
    simp [go_sem]
    rw [Array.getElem?_append_left (by simp)]
    rfl
  have e0 : w3.frozen? ⟨b, 0, none⟩ = false := (World.frozen?_of_block (a := ⟨b, 0, none⟩) (hBS.block b (by rw [hSz]; exact hb))).trans (by rw [hwS]; simp [go_sem, f0])
  have e1 : w3.frozen? ⟨b, 1, none⟩ = false := (World.frozen?_of_block (a := ⟨b, 1, none⟩) (hBS.block b (by rw [hSz]; exact hb))).trans (by rw [hwS]; simp [go_sem, f1])
  have eg : w3.frozen? ⟨g, 0, none⟩ = false := by rw [hw3, hg, ← hSz]; simp [go_sem]
  have hgb : ¬ g = b := by omega
  have hbg : ¬ b = g := by omega
  have HW3 : Hid _ := hw3
  have HWS : Hid _ := hwS
  have HGE : Hid _ := hg
  clear hw3 hwS hg
  go_quiet (fail)
  go_wp2_with fail
  obtain ⟨w4, hw4⟩ : ∃ w4, w4 = w3.drewN nq := ⟨_, rfl⟩
  rw [← hw4]
  have a0 : w4.cell? ⟨b, 0, none⟩ = some (.slice (some ⟨g, 0, none⟩) 1 cp) := by rw [hw4]; exact d0
  have a1 : w4.cell? ⟨b, 1, none⟩ = some (.int .i64 0) := by rw [hw4]; exact d1
  have ag : w4.cell? ⟨g, 0, none⟩ = some (.slice none 0 0) := by rw [hw4]; exact dg
  have l0 : w4.frozen? ⟨b, 0, none⟩ = false := by rw [hw4]; exact e0
  have l1 : w4.frozen? ⟨b, 1, none⟩ = false := by rw [hw4]; exact e1
  have lg : w4.frozen? ⟨g, 0, none⟩ = false := by rw [hw4]; exact eg
  have HW4 : Hid _ := hw4
  clear hw4 d0 d1 dg e0 e1 eg
  go_quiet (fail)
  go_wp2_with fail
  have hmk := make_src n hn
  have hg4 : g < w4.heap.size := World.block_lt_of_cell? _ _ ag
  have hb4 : b < w4.heap.size := World.block_lt_of_cell? _ _ a0
  have hbl : ∀ k o, Below w4.heap.size w4 ((w4.drewN k).alloc o) := fun k o => (below_drewN (Below.refl _ _) k).alloc (Nat.le_refl _) _
  have ag2 : ∀ k o, ((w4.drewN k).alloc o).cell? ⟨g, 0, none⟩ = some (.slice none 0 0) := fun k o => ((hbl k o).cell (p := ⟨g, 0, none⟩) hg4).trans ag
  have lg2 : ∀ k o, ((w4.drewN k).alloc o).frozen? ⟨g, 0, none⟩ = false := fun k o => (World.frozen?_of_block (a := ⟨g, 0, none⟩) ((hbl k o).block g hg4)).trans lg
  clear hbl
  go_region
  clear ag2 lg2 hmk
  obtain ⟨g2, hg2⟩ : ∃ g2, g2 = w4.heap.size := ⟨_, rfl⟩
  rw [← hg2]
  obtain ⟨wM, hwM⟩ : ∃ wM, wM = (w4.drewN (nq + 1)).alloc (.cells (madeCells #[.int .u64 0, .int .u64 0, .int .u64 0] (n * 3)) 37) := ⟨_, rfl⟩
  rw [← hwM]
  have hBM : Below w4.heap.size w4 wM := by rw [hwM]; exact (below_drewN (Below.refl _ _) _).alloc (Nat.le_refl _) _
  obtain ⟨w5, hw5⟩ : ∃ w5, w5 = wM.setCell ⟨g, 0, none⟩ (.slice (some ⟨g2, 0, none⟩) 0 n) := ⟨_, rfl⟩
  rw [← hw5]
  have b0 : w5.cell? ⟨b, 0, none⟩ = some (.slice (some ⟨g, 0, none⟩) 1 cp) := by rw [hw5]; simp [go_sem, (hBM.cell (p := ⟨b, 0, none⟩) hb4).trans a0]
  have b1 : w5.cell? ⟨b, 1, none⟩ = some (.int .i64 0) := by rw [hw5]; simp [go_sem, (hBM.cell (p := ⟨b, 1, none⟩) hb4).trans a1]
  have bg : w5.cell? ⟨g, 0, none⟩ = some (.slice (some ⟨g2, 0, none⟩) 0 n) := by rw [hw5]; simp [go_sem, (hBM.cell (p := ⟨g, 0, none⟩) hg4).trans ag]
  have m1 : w5.frozen? ⟨b, 1, none⟩ = false := by rw [hw5]; simp [go_sem, (World.frozen?_of_block (a := ⟨b, 1, none⟩) (hBM.block b hb4)).trans l1]
  have mg : w5.frozen? ⟨g, 0, none⟩ = false := by rw [hw5]; simp [go_sem, (World.frozen?_of_block (a := ⟨g, 0, none⟩) (hBM.block g hg4)).trans lg]
  have HW5 : Hid _ := hw5
  have HWM : Hid _ := hwM
  have HG2 : Hid _ := hg2
  clear hw5 hwM hg2 a0 a1 ag l0 l1 lg
  go_wp2_with fail
  go_region
  obtain ⟨w6, hw6⟩ : ∃ w6, w6 = (w5.setCell ⟨g, 0, none⟩ (.slice (some ⟨g2, 0, none⟩) n n)).drew := ⟨_, rfl⟩
  rw [← hw6]
  have p1 : w6.cell? ⟨b, 1, none⟩ = some (.int .i64 0) := by rw [hw6]; simp [go_sem, b1]
  have n1 : w6.frozen? ⟨b, 1, none⟩ = false := by rw [hw6]; simp [go_sem, m1]
  have pg : w6.cell? ⟨g, 0, none⟩ = some (.slice (some ⟨g2, 0, none⟩) n n) := by rw [hw6]; simp [go_sem, bg]
  have HW6 : Hid _ := hw6
  clear hw6 b0 b1 bg m1 mg
  go_wp2_with fail
  rw [rounds_succ]
  go_wp2_with fail
  go_end0
  refine ⟨rfl, g, g2, cp, ?_⟩
  have hSb : But b w wS := by rw [HWS.out]; exact (But.refl b w).set b 0 _ (.inl rfl)
  have h3b : But b w w3 := hSb.below hBS
  have h4B : Below w3.heap.size w3 w4 := by rw [HW4.out]; exact below_drewN (Below.refl _ _) _
  have h4b : But b w w4 := h3b.below h4B
  have hMb : But b w wM := h4b.below hBM
  have hgw : w.heap.size ≤ g := by have := HGE.out; omega
  have h5b : But b w w5 := by rw [HW5.out]; exact hMb.set g 0 _ (.inr hgw)
  have h6b : But b w w6 := by rw [HW6.out]; exact (h5b.set g 0 _ (.inr hgw)).below (Below.refl _ _).drew
  have r1 : wS.rowIs b 30 3 (fun i => if i = 0 then .slice (some ⟨g, 0, none⟩) 1 cp else E i) := by rw [HWS.out]; exact hrow.set 0 _
  have r3 := r1.of_block (hBS.block b (by rw [hSz]; exact hb))
  have r4 := r3.of_block (h4B.block b (World.rowIs.lt r3))
  have rM := r4.of_block (hBM.block b hb4)
  have r5 : w5.rowIs b 30 3 (fun i => if i = 0 then .slice (some ⟨g, 0, none⟩) 1 cp else E i) := by rw [HW5.out]; exact rM.setOther (a := ⟨g, 0, none⟩) hbg _
  have r6 : w6.rowIs b 30 3 (fun i => if i = 0 then .slice (some ⟨g, 0, none⟩) 1 cp else E i) := by rw [HW6.out]; exact (r5.setOther (a := ⟨g, 0, none⟩) hbg _).drew
  have rF := r6.set 1 (.int .i64 (n : Int))
  have hg2 : g2 = w4.heap.size := HG2.out
  have sM : wM.rowIs g2 37 (n * 3) (fun _ => .int .u64 0) := by
    rw [HWM.out, hg2]
    have h := World.rowIs_alloc (w4.drewN (nq + 1)) (madeCells #[.int .u64 0, .int .u64 0, .int .u64 0] (n * 3)) 37 (fun _ => .int .u64 0) (fun i hi => by
      rw [size_madeCells] at hi
      exact made3 _ _ hi)
    rw [size_madeCells] at h
    exact h
  have hg2g : g < g2 := by rw [hg2]; exact hg4
  have s5 : w5.rowIs g2 37 (n * 3) (fun _ => .int .u64 0) := by rw [HW5.out]; exact sM.setOther (a := ⟨g, 0, none⟩) (by show g2 ≠ g; omega) _
  have s6 : w6.rowIs g2 37 (n * 3) (fun _ => .int .u64 0) := by rw [HW6.out]; exact (s5.setOther (a := ⟨g, 0, none⟩) (by show g2 ≠ g; omega) _).drew
  have hbg2 : g2 ≠ b := by omega
  exact { but := h6b.set b 1 _ (.inl rfl), o1 := hgw, o2 := hg2g, row := rF, cg := by rw [World.cell?_of_block (a := ⟨g, 0, none⟩) (Deep.blk_setCell_other _ _ _ _ hgb)]; exact pg, src := s6.setOther (a := ⟨b, 1, none⟩) hbg2 _ }
end Go.Proofs.Ybulkukw
