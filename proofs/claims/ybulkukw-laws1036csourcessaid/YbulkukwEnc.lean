/-
  newEncoder (seat b1036a).
-/
import Derived.Test.YbulkukwBuild
import Derived.Deep.RegionWith
namespace Go.Proofs.Ybulkukw
open Go.RowKit

theorem grow_zero (b : Nat) (w : World) : Calls Yba.prog 8 #[.pointer (some ⟨b, 0, none⟩), .int .i64 0] w fun e w' => e = .returned (.tuple #[]) ∧ w' = w := by
  go_enter Yba.func8, Yba.ntmps8
  go_wp2_with fail
  refine wp_loop_rounds 1 ?_
  rw [rounds_succ]
  go_wp2_with fail
  go_end0
  exact ⟨rfl, rfl⟩

set_option maxRecDepth 100000 in
theorem enc_zero (a : Option Addr) (c : Nat) (sign : Int) (w : World) : Calls Yba.prog 6 #[.slice a 0 c, .int .i64 sign] w fun e w' => e = .returned (.agg #[.slice none 0 0, .int .i64 0, .int .i64 sign]) ∧ Below w.heap.size w w' := by
  go_enter Yba.func6, Yba.ntmps6
  go_wp2_with (go_at_call 8; refine (grow_zero _ _).mono ?_; rintro e w' ⟨rfl, rfl⟩)
  refine wp_loop_rounds 1 ?_
  rw [rounds_succ]
  go_wp2_with fail
  exact bodyPost_ret (v := .agg #[.slice none 0 0, .int .i64 0, .int .i64 sign]) (by simp [results, Yba.results6, go_sem]) rfl ⟨rfl, ((Below.refl _ _).alloc (Nat.le_refl _) _).alloc (by simp) _⟩

/-- A row of n sources, the first i of the hashes H. -/
def Srcs (w : World) (g2 n : Nat) (H : Nat → Int) (i : Nat) : Prop :=
  ∃ f : Nat → Value, w.rowIs g2 37 (n * 3) f ∧ ∀ j, j < i → f (j * 3) = .int .u64 (H j) ∧ f (j * 3 + 1) = .int .u64 (H j) ∧ f (j * 3 + 2) = .int .u64 0

theorem Srcs.set {w : World} {g2 n : Nat} {H : Nat → Int} {i : Nat} (h : Srcs w g2 n H i) : Srcs (((w.setCell ⟨g2, i * 3, none⟩ (.int .u64 (H i))).setCell ⟨g2, i * 3 + 1, none⟩ (.int .u64 (H i))).setCell ⟨g2, i * 3 + 2, none⟩ (.int .u64 0)) g2 n H (i + 1) := by
  obtain ⟨f, hr, h1⟩ := h
  refine ⟨_, ((hr.set (i * 3) _).set (i * 3 + 1) _).set (i * 3 + 2) _, fun j hj => ?_⟩
  by_cases hji : j = i
  · subst hji
    refine ⟨?_, ?_, ?_⟩
    · show (if j * 3 = j * 3 + 2 then _ else if j * 3 = j * 3 + 1 then _ else if j * 3 = j * 3 then _ else _) = _
      rw [if_neg (by omega), if_neg (by omega), if_pos rfl]
    · show (if j * 3 + 1 = j * 3 + 2 then _ else if j * 3 + 1 = j * 3 + 1 then _ else if j * 3 + 1 = j * 3 then _ else _) = _
      rw [if_neg (by omega), if_pos rfl]
    · show (if j * 3 + 2 = j * 3 + 2 then _ else if j * 3 + 2 = j * 3 + 1 then _ else if j * 3 + 2 = j * 3 then _ else _) = _
      rw [if_pos rfl]
  · obtain ⟨k0, k1, k2⟩ := h1 j (by omega)
    refine ⟨?_, ?_, ?_⟩
    · show (if j * 3 = i * 3 + 2 then _ else if j * 3 = i * 3 + 1 then _ else if j * 3 = i * 3 then _ else _) = _
      rw [if_neg (by omega), if_neg (by omega), if_neg (by omega)]; exact k0
    · show (if j * 3 + 1 = i * 3 + 2 then _ else if j * 3 + 1 = i * 3 + 1 then _ else if j * 3 + 1 = i * 3 then _ else _) = _
      rw [if_neg (by omega), if_neg (by omega), if_neg (by omega)]; exact k1
    · show (if j * 3 + 2 = i * 3 + 2 then _ else if j * 3 + 2 = i * 3 + 1 then _ else if j * 3 + 2 = i * 3 then _ else _) = _
      rw [if_neg (by omega), if_neg (by omega), if_neg (by omega)]; exact k2

theorem Srcs.block {w w' : World} {g2 n : Nat} {H : Nat → Int} {i : Nat} (h : Srcs w g2 n H i) (e : w'.heap[g2]? = w.heap[g2]?) : Srcs w' g2 n H i := by
  obtain ⟨f, hr, h1⟩ := h
  exact ⟨f, hr.of_block e, h1⟩
theorem Srcs.lt {w : World} {g2 n : Nat} {H : Nat → Int} {i : Nat} (h : Srcs w g2 n H i) : g2 < w.heap.size := by
  obtain ⟨f, hr, h1⟩ := h
  exact hr.lt
theorem Pieces.block {w w' : World} {pb n : Nat} {H : Nat → Int} {i : Nat} (h : Pieces w pb n H i) (e : w'.heap[pb]? = w.heap[pb]?) : Pieces w' pb n H i := by
  obtain ⟨f, hr, h1⟩ := h
  exact ⟨f, hr.of_block e, h1⟩
theorem Pieces.lt {w : World} {pb n : Nat} {H : Nat → Int} {i : Nat} (h : Pieces w pb n H i) : pb < w.heap.size := by
  obtain ⟨f, hr, h1⟩ := h
  exact hr.lt

/-- The encoder under way: its variable lies at eb, its result at rb, the list's one block of sources at g2. -/
structure Enc (w0 w : World) (rb eb g g2 cp n pb : Nat) (sign : Int) (H : Nat → Int) (i : Nat) : Prop where
  o0 : pb < rb
  o1 : rb < eb
  o2 : eb < g
  o3 : g < g2
  o4 : w0.heap.size ≤ rb
  row : w.rowIs eb 30 3 (fun i => if i = 1 then .int .i64 (n : Int) else if i = 0 then .slice (some ⟨g, 0, none⟩) 1 cp else .int .i64 sign)
  res : w.rowIs rb 30 3 (fun i => if i = 0 then .slice none 0 0 else .int .i64 0)
  cg : w.cell? ⟨g, 0, none⟩ = some (.slice (some ⟨g2, 0, none⟩) n n)
  src : Srcs w g2 n H i
  pcs : Pieces w pb n H n
  bel : Below w0.heap.size w0 w

theorem Enc.below {w0 w w' : World} {rb eb g g2 cp n pb i : Nat} {sign : Int} {H : Nat → Int} (h : Enc w0 w rb eb g g2 cp n pb sign H i) (k : Below w.heap.size w w') : Enc w0 w' rb eb g g2 cp n pb sign H i := by
  have h2 := h.src.lt
  have h3 := h.o0
  have h4 := h.o1
  have h5 := h.o2
  have h6 := h.o3
  exact { o0 := h.o0, o1 := h.o1, o2 := h.o2, o3 := h.o3, o4 := h.o4, row := h.row.of_block (k.block eb (by omega)), res := h.res.of_block (k.block rb (by omega)), cg := (k.cell (p := ⟨g, 0, none⟩) (by show g < _; omega)).trans h.cg, src := h.src.block (k.block g2 h2), pcs := h.pcs.block (k.block pb (by omega)), bel := h.bel.trans (k.mono h.bel.size) }

theorem Enc.set {w0 w : World} {rb eb g g2 cp n pb i : Nat} {sign : Int} {H : Nat → Int} (h : Enc w0 w rb eb g g2 cp n pb sign H i) :
    Enc w0 (((w.setCell ⟨g2, i * 3, none⟩ (.int .u64 (H i))).setCell ⟨g2, i * 3 + 1, none⟩ (.int .u64 (H i))).setCell ⟨g2, i * 3 + 2, none⟩ (.int .u64 0)) rb eb g g2 cp n pb sign H (i + 1) := by
  have h3 := h.o0
  have h4 := h.o1
  have h5 := h.o2
  have h6 := h.o3
  have h7 := h.o4
  have hk : ∀ k, k ≠ g2 → (((w.setCell ⟨g2, i * 3, none⟩ (.int .u64 (H i))).setCell ⟨g2, i * 3 + 1, none⟩ (.int .u64 (H i))).setCell ⟨g2, i * 3 + 2, none⟩ (.int .u64 0)).heap[k]? = w.heap[k]? := fun k hk =>
    (Deep.blk_setCell_other _ _ _ _ hk).trans ((Deep.blk_setCell_other _ _ _ _ hk).trans (Deep.blk_setCell_other _ _ _ _ hk))
  exact { o0 := h.o0, o1 := h.o1, o2 := h.o2, o3 := h.o3, o4 := h.o4, row := h.row.of_block (hk eb (by omega)), res := h.res.of_block (hk rb (by omega)), cg := (World.cell?_of_block (a := ⟨g, 0, none⟩) (hk g (by omega))).trans h.cg, src := h.src.set, pcs := h.pcs.block (hk pb (by omega)), bel := ((h.bel.setCell (by show _ ≤ g2; omega) _).setCell (by show _ ≤ g2; omega) _).setCell (by show _ ≤ g2; omega) _ }

theorem row3 (w : World) (a b c : Value) : (w.alloc (.cells #[a, b, c] 30)).rowIs w.heap.size 30 3 (fun i => if i = 0 then a else if i = 1 then b else c) :=
  World.rowIs_alloc w #[a, b, c] 30 (fun i => if i = 0 then a else if i = 1 then b else c) (fun i hi => by
    have h3 : i = 0 ∨ i = 1 ∨ i = 2 := by simp at hi; omega
    rcases h3 with rfl | rfl | rfl <;> rfl)

set_option maxRecDepth 100000 in
set_option maxHeartbeats 1000000 in
theorem enc_any (pb n : Nat) (H : Nat → Int) (sign : Int) (w : World) (hn0 : 1 ≤ n) (hn : n ≤ 1024) (hpc : Pieces w pb n H n) :
    Calls Yba.prog 6 #[.slice (some ⟨pb, 0, none⟩) n n, .int .i64 sign] w fun e w' => ∃ g g2 cp, e = .returned (.agg #[.slice (some ⟨g, 0, none⟩) 1 cp, .int .i64 (n : Int), .int .i64 sign]) ∧ w'.cell? ⟨g, 0, none⟩ = some (.slice (some ⟨g2, 0, none⟩) n n) ∧ Srcs w' g2 n H n ∧ Below w.heap.size w w' := by
  have HPC : Hid (Pieces w pb n H n) := hpc
  clear hpc
  have hr1 := row3 (w.alloc (.cells #[.slice none 0 0, .int .i64 0, .int .i64 0] 30)) (.slice none 0 0) (.int .i64 0) (.int .i64 sign)
  rw [show (w.alloc (.cells #[.slice none 0 0, .int .i64 0, .int .i64 0] 30)).heap.size = w.heap.size + 1 by simp] at hr1
  have HR1 : Hid _ := hr1
  clear hr1
  go_enter Yba.func6, Yba.ntmps6
  go_wp2_with (go_at_call 8; refine (grow_any (w.heap.size + 1) n _ _ hn0 hn HR1.out rfl rfl).mono ?_; rintro e w' ⟨rfl, g, g2, cp, hg⟩)
  have HE0 : Hid (Enc w w' w.heap.size (w.heap.size + 1) g g2 cp n pb sign H 0) := by
    have hb := hg.but
    have hpl := HPC.out.lt
    have hB1 : Below w.heap.size w ((w.alloc (.cells #[.slice none 0 0, .int .i64 0, .int .i64 0] 30)).alloc (.cells #[.slice none 0 0, .int .i64 0, .int .i64 sign] 30)) := ((Below.refl _ _).alloc (Nat.le_refl _) _).alloc (by simp) _
    have hBw : Below w.heap.size w w' := ⟨hb.os, hb.tape, hb.output, Nat.le_trans hB1.size hb.size, fun k hk => (hb.block k (Nat.lt_of_lt_of_le hk hB1.size) (by omega)).trans (hB1.block k hk)⟩
    have ho1 := hg.o1
    have hr0 := (row3 w (.slice none 0 0) (.int .i64 0) (.int .i64 0)).alloc (.cells #[.slice none 0 0, .int .i64 0, .int .i64 sign] 30)
    exact { o0 := hpl, o1 := by omega, o2 := by simp at ho1; omega, o3 := hg.o2, o4 := Nat.le_refl _, row := hg.row.congr (fun i hi => by
              have h3 : i = 0 ∨ i = 1 ∨ i = 2 := by omega
              rcases h3 with rfl | rfl | rfl <;> rfl), res := (hr0.of_block (hb.block _ (by simp; omega) (by omega))).congr (fun i hi => by
              have h3 : i = 0 ∨ i = 1 ∨ i = 2 := by omega
              rcases h3 with rfl | rfl | rfl <;> rfl), cg := hg.cg, src := ⟨_, hg.src, fun j hj => by omega⟩, pcs := HPC.out.block (hBw.block pb hpl), bel := hBw }
  clear hg HPC HR1
  obtain ⟨rb, hrb⟩ : ∃ rb, rb = w.heap.size := ⟨_, rfl⟩
  rw [← hrb] at HE0 ⊢
  obtain ⟨eb, heb⟩ : ∃ eb, eb = rb + 1 := ⟨_, rfl⟩
  rw [← heb] at HE0 ⊢
  have HRB : Hid _ := hrb
  have HEB : Hid _ := heb
  clear hrb heb
  go_loopg [16] n (fun k iv wr => ∃ i : Nat, iv = .int .i64 (i : Int) ∧ (i + k = n ∧ Enc w wr rb eb g g2 cp n pb sign H i))
  case atStart => exact ⟨0, rfl, by omega, HE0.out⟩
  case round =>
    clear HE0
    obtain ⟨i, rfl, hE⟩ := hrel
    have HE : Hid _ := hE
    clear hE
    by_cases hi : i < n
    · obtain ⟨f, hr, h1, h2⟩ := HE.out.2.pcs
      have s0 := hr.cell (i := i * 2) (by omega)
      have s1 := hr.cell (i := i * 2 + 1) (by omega)
      rw [h1 i hi] at s0
      obtain ⟨z, hz⟩ := h2 i
      rw [hz] at s1
      clear h1 h2 hr hz f
      go_wp2_with fail
      obtain ⟨wv, hwv⟩ : ∃ wv, wv = wr.alloc (.cells #[.int .u64 (H i), .int .i64 z] 42) := ⟨_, rfl⟩
      rw [← hwv]
      have HV : Hid (Enc w wv rb eb g g2 cp n pb sign H i) := by
        refine HE.out.2.below ?_
        rw [hwv]
        exact below_one _ _
      obtain ⟨vb, hvb⟩ : ∃ vb, vb = wr.heap.size := ⟨_, rfl⟩
      rw [← hvb]
      have cv : wv.cell? ⟨vb, 0, none⟩ = some (.int .u64 (H i)) := by rw [hwv, hvb]; simp [go_sem]
      clear hwv hvb s0 s1
      have AT := fun W c0 c1 => at_one eb 0 g g2 n cp i W hi hn c0 c1
      have c0 := HV.out.row.cell (i := 0) (by omega)
      simp only [if_true, show ¬ (0 = 1) by omega, if_false] at c0
      have c1 := HV.out.cg
      have hg2v := HV.out.src.lt
      have OUT : Hid (∀ W, Below wv.heap.size wv W → Enc w W rb eb g g2 cp n pb sign H i) := fun W hb => HV.out.below hb
      clear HV
      have SC : ∀ W, Enc w W rb eb g g2 cp n pb sign H i → (∃ v, W.cell? ⟨g2, i * 3, none⟩ = some v) ∧ (∃ v, W.cell? ⟨g2, i * 3 + 1, none⟩ = some v) ∧ (∃ v, W.cell? ⟨g2, i * 3 + 2, none⟩ = some v) ∧ W.frozen? ⟨g2, i * 3, none⟩ = false ∧ W.frozen? ⟨g2, i * 3 + 1, none⟩ = false ∧ W.frozen? ⟨g2, i * 3 + 2, none⟩ = false := by
        intro W hW
        obtain ⟨f, hr, _⟩ := hW.src
        exact ⟨⟨_, hr.cell (by omega)⟩, ⟨_, hr.cell (by omega)⟩, ⟨_, hr.cell (by omega)⟩, hr.frozen _, hr.frozen _, hr.frozen _⟩
      have HSC : Hid _ := SC
      clear SC
      go_region_with (first | (go_at_call 7; refine (AT _ ?_ ?_).mono ?_; exact c0; exact c1; rintro e w' ⟨rfl, rfl⟩) | (go_at_call 9; refine (source_any _ _).mono ?_; rintro e w' ⟨rfl, hb⟩; have HW : Hid (Enc w w' rb eb g g2 cp n pb sign H i) := OUT.out w' ⟨hb.os, hb.tape, hb.output, hb.size, hb.block⟩; obtain ⟨⟨v0, e0⟩, ⟨v1, e1⟩, ⟨v2, e2⟩, k0, k1, k2⟩ := HSC.out w' HW.out; clear hb))
      all_goals
        have HN : Hid (Enc w _ rb eb g g2 cp n pb sign H (i + 1)) := HW.out.set
        clear HW HSC OUT AT e0 e1 e2 k0 k1 k2 c0 c1 cv
        revert HN
        generalize (((World.setCell _ _ _).setCell _ _).setCell _ _) = wn
        intro HN
        go_wp2_with fail
        go_roundg (gk - 1)
        case measure => have := HE.out.1; omega
        case rel => exact ⟨i + 1, by go_num, by have := HE.out.1; omega, HN.out⟩
    · have hin : i = n := by have := HE.out.1; omega
      subst hin
      have R := HE.out.2.row
      have r0 := R.cell (i := 0) (by omega)
      have r1 := R.cell (i := 1) (by omega)
      have r2 := R.cell (i := 2) (by omega)
      simp only [if_true, show ¬ (0 = 1) by omega, show ¬ (2 = 1) by omega, show ¬ (2 = 0) by omega, if_false] at r0 r1 r2
      have S := HE.out.2.res
      have t0 := S.cell (i := 0) (by omega)
      have t1 := S.cell (i := 1) (by omega)
      have t2 := S.cell (i := 2) (by omega)
      simp only [if_true, show ¬ (1 = 0) by omega, show ¬ (2 = 0) by omega, if_false] at t0 t1 t2
      have f0 := S.frozen 0
      have f1 := S.frozen 1
      have f2 := S.frozen 2
      clear R S
      go_wp2_with fail
      refine bodyPost_ret (v := .agg #[.slice (some ⟨g, 0, none⟩) 1 cp, .int .i64 (i : Int), .int .i64 sign]) (by simp [results, Yba.results6, go_sem, t0, t1, t2]) rfl ⟨g, g2, cp, rfl, ?_, ?_, ?_⟩
      · have := HE.out.2.o1
        have := HE.out.2.o2
        rw [World.cell?_of_block (a := ⟨g, 0, none⟩) ((Deep.blk_setCell_other _ _ _ _ (by show g ≠ rb; omega)).trans ((Deep.blk_setCell_other _ _ _ _ (by show g ≠ rb; omega)).trans (Deep.blk_setCell_other _ _ _ _ (by show g ≠ rb; omega))))]
        exact HE.out.2.cg
      · have := HE.out.2.o1
        have := HE.out.2.o2
        have := HE.out.2.o3
        exact HE.out.2.src.block ((Deep.blk_setCell_other _ _ _ _ (by show g2 ≠ rb; omega)).trans ((Deep.blk_setCell_other _ _ _ _ (by show g2 ≠ rb; omega)).trans (Deep.blk_setCell_other _ _ _ _ (by show g2 ≠ rb; omega))))
      · have h4 := HE.out.2.o4
        exact ((HE.out.2.bel.setCell (p := ⟨rb, 0, none⟩) h4 _).setCell (p := ⟨rb, 1, none⟩) h4 _).setCell (p := ⟨rb, 2, none⟩) h4 _
end Go.Proofs.Ybulkukw
