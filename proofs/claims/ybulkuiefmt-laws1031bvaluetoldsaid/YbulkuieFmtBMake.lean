/-
  zzs1031bheap (seat b1031aF): what it builds is a heap of one object ('BH').
-/
import Derived.Test.YbulkuieFmtBGet
import Derived.Test.YbulkuieFmtCopy
import Derived.Deep.LoopGhost
namespace Go.Proofs.YbulkuieFmt
open Go.RowKit

theorem heap_end (w w2 : World) (r n top L : Nat) (hdr v : Int) (ws : Nat → Int) (f : Nat → Value) (hr : r ≤ 3) (hn : n ≤ 1024) (ht : top = 1 + r + n) (hLe : L = (top + 63) / 64) (hz : w2.heap.size = w.heap.size + 1 + 1)
    (hrow : w2.rowIs (w.heap.size + 1) 24 top f) (hf0 : f 0 = .int .u64 hdr) (hfw : ∀ j, j < n → f (1 + r + j) = .int .u64 (ws j)) (hb2 : Below w.heap.size w w2)
    (eR : bits .and .u64 (hdr / 2147483648) 2147483647 = (r : Int)) (eW : bits .and .u64 hdr 2147483647 = (n : Int)) :
    BH ((((w2.setCell ⟨w.heap.size, 0, none⟩ (.int .u64 v)).alloc (.cells ((madeCells #[.int .u64 0] L).setIfInBounds 0 (.int .u64 1)) 24)).alloc
        (.cells (((((((zc53.setIfInBounds 1 (.int .u64 7)).setIfInBounds 3 (.int .u64 16)).setIfInBounds 4 (.slice (some ⟨w.heap.size + 1, 0, none⟩) top top)).setIfInBounds 6 (.int .i64 (top : Int))).setIfInBounds 7 (.int .i64 (top : Int))).setIfInBounds 9 (.slice (some ⟨w.heap.size + 1 + 1, 0, none⟩) L L)).setIfInBounds 2 (.int .u64 1970324836974592)) 53)).drew)
      (w.heap.size + 1 + 1 + 1) (w.heap.size + 1) (w.heap.size + 1 + 1) r n hdr ws ∧
    Below w.heap.size w ((((w2.setCell ⟨w.heap.size, 0, none⟩ (.int .u64 v)).alloc (.cells ((madeCells #[.int .u64 0] L).setIfInBounds 0 (.int .u64 1)) 24)).alloc
        (.cells (((((((zc53.setIfInBounds 1 (.int .u64 7)).setIfInBounds 3 (.int .u64 16)).setIfInBounds 4 (.slice (some ⟨w.heap.size + 1, 0, none⟩) top top)).setIfInBounds 6 (.int .i64 (top : Int))).setIfInBounds 7 (.int .i64 (top : Int))).setIfInBounds 9 (.slice (some ⟨w.heap.size + 1 + 1, 0, none⟩) L L)).setIfInBounds 2 (.int .u64 1970324836974592)) 53)).drew) := by
  subst hLe
  obtain ⟨w3, hw3⟩ : ∃ w3, w3 = w2.setCell ⟨w.heap.size, 0, none⟩ (.int .u64 v) := ⟨_, rfl⟩
  have hrow3 : w3.rowIs (w.heap.size + 1) 24 top f := by rw [hw3]; exact hrow.setOther (by simp) _
  have hb3 : Below w.heap.size w w3 := by rw [hw3]; exact hb2.setCell (by simp) _
  have hz3 : w3.heap.size = w.heap.size + 1 + 1 := by rw [hw3]; simpa using hz
  rw [← hw3]
  clear hw3 hrow hb2 hz w2
  obtain ⟨cH, hcH⟩ : ∃ cH, cH = (((((((zc53.setIfInBounds 1 (.int .u64 7)).setIfInBounds 3 (.int .u64 16)).setIfInBounds 4 (.slice (some ⟨w.heap.size + 1, 0, none⟩) top top)).setIfInBounds 6 (.int .i64 (top : Int))).setIfInBounds 7 (.int .i64 (top : Int))).setIfInBounds 9 (.slice (some ⟨w.heap.size + 1 + 1, 0, none⟩) ((top + 63) / 64) ((top + 63) / 64))).setIfInBounds 2 (.int .u64 1970324836974592)) := ⟨_, rfl⟩
  rw [← hcH]
  obtain ⟨cS, hcS⟩ : ∃ cS, cS = ((madeCells #[.int .u64 0] ((top + 63) / 64)).setIfInBounds 0 (.int .u64 1) : Array Value) := ⟨_, rfl⟩
  rw [← hcS]
  have hH : ((w3.alloc (.cells cS 24)).alloc (.cells cH 53)).drew.heap[w.heap.size + 1 + 1 + 1]? = some (.cells cH 53 (0, 0)) := by
    show ((w3.alloc (.cells cS 24)).alloc (.cells cH 53)).heap[w.heap.size + 1 + 1 + 1]? = _
    have : (w3.alloc (.cells cS 24)).heap.size = w.heap.size + 1 + 1 + 1 := by simp [hz3]
    rw [← this]
    exact Deep.blk_alloc_new _ _
  have hS : ((w3.alloc (.cells cS 24)).alloc (.cells cH 53)).drew.heap[w.heap.size + 1 + 1]? = some (.cells cS 24 (0, 0)) := by
    show ((w3.alloc (.cells cS 24)).alloc (.cells cH 53)).heap[w.heap.size + 1 + 1]? = _
    rw [Deep.blk_alloc_lt _ _ _ (by simp [hz3]), ← hz3]
    exact Deep.blk_alloc_new _ _
  have hA := ((hrow3.alloc (.cells cS 24)).alloc (.cells cH 53)).drew
  have hsz : ((w3.alloc (.cells cS 24)).alloc (.cells cH 53)).drew.heap.size = w.heap.size + 1 + 1 + 1 + 1 := by simp [hz3]
  have hc : ∀ i v, cH[i]? = some v → ((w3.alloc (.cells cS 24)).alloc (.cells cH 53)).drew.cell? ⟨w.heap.size + 1 + 1 + 1, i, none⟩ = some v := fun i v h => by simp [World.cell?, hH, h]
  have hs : ∀ i v, cS[i]? = some v → ((w3.alloc (.cells cS 24)).alloc (.cells cH 53)).drew.cell? ⟨w.heap.size + 1 + 1, i, none⟩ = some v := fun i v h => by simp [World.cell?, hS, h]
  refine ⟨⟨by rw [hsz]; omega, by rw [hsz]; omega, by rw [hsz]; omega, hr, hn, hc 1 _ (by rw [hcH]; simp [zc53_size]), hc 2 _ (by rw [hcH]; simp [zc53_size]), hc 3 _ (by rw [hcH]; simp [zc53_size]), hc 4 _ (by rw [hcH, ← ht]; simp [zc53_size]), hc 6 _ (by rw [hcH, ← ht]; simp [zc53_size]),
    hc 9 _ (by rw [hcH, ← ht]; simp [zc53_size]), by rw [hA.cell (i := 0) (by omega), hf0], fun j hj => by rw [hA.cell (i := 1 + r + j) (by omega), hfw j hj], fun q hq => hs q _ ?_, eR, eW⟩, ?_⟩
  · rw [← ht] at hq
    rw [hcS, Array.getElem?_setIfInBounds]
    by_cases h0 : q = 0
    · subst h0
      have : (madeCells #[Value.int .u64 0] ((top + 63) / 64)).size = (top + 63) / 64 := size_madeCells _ _
      simp [this]; omega
    · rw [if_neg (fun h => h0 h.symm), if_neg h0]
      exact made_at _ _ _ hq
  · exact ((hb3.alloc (by omega) _).alloc (by simp; omega) _).drew

set_option maxRecDepth 100000 in
theorem heap_pos (r n cap top L : Nat) (ad : Addr) (hdr : Int) (ws : Nat → Int) (w : World) (hr : r ≤ 3) (hn : n ≤ 1024) (htop : 1 + (r : Int) + (n : Int) = (top : Int)) (ht : top = 1 + r + n) (hn0 : 0 < n)
    (hL : ((top : Int) + 63) / 64 = (L : Int)) (hh : bits .or .u64 ((r : Int) * 2147483648) (n : Int) = hdr) (hsrc : ∀ j, j < n → w.cell? (ad.add j) = some (.int .u64 (ws j))) (hadlt : ad.block < w.heap.size)
    (eR : bits .and .u64 (hdr / 2147483648) 2147483647 = (r : Int)) (eW : bits .and .u64 hdr 2147483647 = (n : Int)) :
    Calls Ybaf.prog 7 #[.int .i64 r, .slice (some ad) n cap] w fun e w' => ∃ hb ab sb : Nat, e = .returned (.tuple #[.pointer (some ⟨hb, 0, none⟩), .agg #[.int .u64 1970324836974593]]) ∧ BH w' hb ab sb r n hdr ws ∧ Below w.heap.size w w' := by
  have hmk := run_make_row' (P := Ybaf.prog) 22 24 (.int .u64 0) 8 Ybaf.underlying22 info24 rfl .i64 .i64 top (by omega) (by omega)
  have hmk2 := run_make_row' (P := Ybaf.prog) 41 24 (.int .u64 0) 8 Ybaf.underlying41 info24 rfl .i64 .i64 L (by omega) (by omega)
  have hm0 := made_at top 0 (.int .u64 0) (by omega)
  have hm1 := made_at L 0 (.int .u64 0) (by omega)
  have hL1 : 1 ≤ L := by omega
  have hL2 : L ≤ 100 := by omega
  have hor : bits .or .u64 1970324836974592 1 = 1970324836974593 := by decide
  have z1 := zero53
  have z2 := zc53_size
  have z3 := zc53_ne
  have HE : Hid (bits .and .u64 (hdr / 2147483648) 2147483647 = (r : Int) ∧ bits .and .u64 hdr 2147483647 = (n : Int)) := ⟨eR, eW⟩
  have HT : Hid (top = 1 + r + n) := ht
  clear ht eR eW
  go_enter Ybaf.func7, Ybaf.ntmps7
  go_wp2_with fail
  go_loopg [8] r (fun g k wr => ∃ (j : Nat) (f : Nat → Value), j + g = r ∧ k = .int .i64 j ∧ wr.rowIs (w.heap.size + 1) 24 top f ∧ f 0 = .int .u64 hdr ∧ wr.rowIs w.heap.size 26 1 (fun _ => .int .u64 0) ∧ wr.heap.size = w.heap.size + 2 ∧ Below w.heap.size w wr)
  case atStart =>
    refine ⟨0, fun i => if i = 0 then .int .u64 hdr else .int .u64 0, by omega, rfl, ?_, rfl, ?_, by simp, ?_⟩
    · have h0 := World.rowIs_made (w.alloc (.cells #[.int .u64 0] 26)) (.int .u64 0) top 24
      have h1 := h0.set 0 (.int .u64 hdr)
      rw [World.setCell_alloc_at _ _ _ _ _ rfl] at h1
      simpa using h1
    · exact (World.rowIs_alloc w #[.int .u64 0] 26 (fun _ => .int .u64 0) (fun i hi => by have : i = 0 := by simpa using hi
                                                                                          subst this; rfl)).alloc _
    · exact ((Below.refl _ _).alloc (Nat.le_refl _) _).alloc (by simp) _
  case round =>
    obtain ⟨j, f, hjg, rfl, hrow, hf0, hres, hsz, hbel⟩ := hrel
    have HJ : Hid (j + gk = r) := hjg
    have HF : Hid (f 0 = .int .u64 hdr) := hf0
    have HZ : Hid (wr.heap.size = w.heap.size + 2) := hsz
    clear hjg hf0 hsz
    by_cases hlt : j < r
    · have hcell : wr.cell? ⟨w.heap.size + 1, 1 + j, none⟩ = some (f (1 + j)) := hrow.cell (by have := HT.out; omega)
      have hfz := hrow.frozen (1 + j)
      go_wp2_with fail
      go_roundg (gk - 1)
      case measure => have := HJ.out; omega
      case rel =>
        have hJ := HJ.out
        refine ⟨j + 1, _, by omega, by go_num, hrow.set (1 + j) _, ?_, hres.setOther (by simp) _, ?_, ?_⟩
        · simp only [show ¬ (0 = 1 + j) by omega, if_false]; exact HF.out
        · simpa using HZ.out
        · exact hbel.setCell (by simp) _
    · have hend : j = r := by have := HJ.out; omega
      subst hend
      have hne : ¬ top = 1 + j := by have := HT.out; omega
      obtain ⟨w2, hcp, hrow2, hB2, hoth, hz2⟩ := copy_rows 22 22 3 Ybaf.underlying22 wr (w.heap.size + 1) (1 + j) (top - (1 + j)) (top - (1 + j)) ad n cap n top f (fun i => .int .u64 (ws i)) hrow (by have := HT.out; omega)
        (fun i hi => (hbel.cell (p := ad.add i) (by unfold Addr.add; split <;> exact hadlt)).trans (hsrc i hi)) (by have := HT.out; omega) (fun _ _ => rfl)
      have hz : w2.heap.size = w.heap.size + 1 + 1 := by rw [hz2, HZ.out]
      have hres2 : w2.rowIs w.heap.size 26 1 (fun _ => .int .u64 0) := hres.of_block (hoth _ (by omega))
      have hb2 := hbel.trans (hB2 w.heap.size (by omega))
      have HEND : Hid (∀ v : Int, _) := fun v => heap_end w w2 j n top L hdr v ws _ hr hn HT.out (by omega) hz hrow2 (by rw [if_neg (by omega)]; exact HF.out) (fun i hi => by rw [if_pos (by omega)]; congr 2; omega) hb2 HE.out.1 HE.out.2
      have hfr := hres2.frozen 0
      have hcr := hres2.cell (i := 0) (by omega)
      have K1 : ∀ o1 o2, ((w2.alloc o1).alloc o2).cell? ⟨w.heap.size, 0, none⟩ = some (.int .u64 0) := fun o1 o2 => by rw [World.cell?_alloc_past _ _ _ (by simp [hz]; omega), World.cell?_alloc_past _ _ _ (by rw [hz]; omega)]; exact hcr
      have K2 : ∀ o1 o2, ((w2.alloc o1).alloc o2).frozen? ⟨w.heap.size, 0, none⟩ = false := fun o1 o2 => by rw [World.frozen?_alloc_past _ _ _ (by simp [hz]; omega), World.frozen?_alloc_past _ _ _ (by rw [hz]; omega)]; exact hfr
      have K3 : ∀ o1 o2, (((w2.setCell ⟨w.heap.size, 0, none⟩ (.int .u64 1970324836974593)).alloc o1).alloc o2).cell? ⟨w.heap.size, 0, none⟩ = some (.int .u64 1970324836974593) := fun o1 o2 => by
        have h3 := ((hres2.set 0 (.int .u64 1970324836974593)).alloc o1).alloc o2
        exact h3.cell (i := 0) (by omega)
      clear hz2 hoth hB2 hbel hrow hres hmk hm0 hlt hsrc
      clear hrow2 hres2 hfr hcr
      go_wp2
      go_region
      all_goals (try go_wp2)
      all_goals exact bodyPost_ret (v := .tuple #[.pointer (some ⟨w.heap.size + 1 + 1 + 1, 0, none⟩), .agg #[.int .u64 1970324836974593]]) (by simp [results, Ybaf.results7, go_sem, K3]) rfl ⟨_, _, _, rfl, HEND.out _⟩

set_option maxRecDepth 100000 in
theorem heap_zero (r  cap top L : Nat) (ao : Option Addr) (hdr : Int) (ws : Nat → Int) (w : World) (hr : r ≤ 3) (htop : 1 + (r : Int) = (top : Int)) (ht : top = 1 + r)
    (hL : ((top : Int) + 63) / 64 = (L : Int)) (hh : bits .or .u64 ((r : Int) * 2147483648) 0 = hdr)
    (eR : bits .and .u64 (hdr / 2147483648) 2147483647 = (r : Int)) (eW : bits .and .u64 hdr 2147483647 = ((0 : Nat) : Int)) :
    Calls Ybaf.prog 7 #[.int .i64 r, .slice ao 0 cap] w fun e w' => ∃ hb ab sb : Nat, e = .returned (.tuple #[.pointer (some ⟨hb, 0, none⟩), .agg #[.int .u64 1970324836974593]]) ∧ BH w' hb ab sb r 0 hdr ws ∧ Below w.heap.size w w' := by
  have hmk := run_make_row' (P := Ybaf.prog) 22 24 (.int .u64 0) 8 Ybaf.underlying22 info24 rfl .i64 .i64 top (by omega) (by omega)
  have hmk2 := run_make_row' (P := Ybaf.prog) 41 24 (.int .u64 0) 8 Ybaf.underlying41 info24 rfl .i64 .i64 L (by omega) (by omega)
  have hm0 := made_at top 0 (.int .u64 0) (by omega)
  have hm1 := made_at L 0 (.int .u64 0) (by omega)
  have hL1 : 1 ≤ L := by omega
  have hL2 : L ≤ 100 := by omega
  have hor : bits .or .u64 1970324836974592 1 = 1970324836974593 := by decide
  have z1 := zero53
  have z2 := zc53_size
  have z3 := zc53_ne
  have HE : Hid (bits .and .u64 (hdr / 2147483648) 2147483647 = (r : Int) ∧ bits .and .u64 hdr 2147483647 = ((0 : Nat) : Int)) := ⟨eR, eW⟩
  have HT : Hid (top = 1 + r) := ht
  clear ht eR eW
  go_enter Ybaf.func7, Ybaf.ntmps7
  go_wp2_with fail
  go_loopg [8] r (fun g k wr => ∃ (j : Nat) (f : Nat → Value), j + g = r ∧ k = .int .i64 j ∧ wr.rowIs (w.heap.size + 1) 24 top f ∧ f 0 = .int .u64 hdr ∧ wr.rowIs w.heap.size 26 1 (fun _ => .int .u64 0) ∧ wr.heap.size = w.heap.size + 2 ∧ Below w.heap.size w wr)
  case atStart =>
    refine ⟨0, fun i => if i = 0 then .int .u64 hdr else .int .u64 0, by omega, rfl, ?_, rfl, ?_, by simp, ?_⟩
    · have h0 := World.rowIs_made (w.alloc (.cells #[.int .u64 0] 26)) (.int .u64 0) top 24
      have h1 := h0.set 0 (.int .u64 hdr)
      rw [World.setCell_alloc_at _ _ _ _ _ rfl] at h1
      simpa using h1
    · exact (World.rowIs_alloc w #[.int .u64 0] 26 (fun _ => .int .u64 0) (fun i hi => by have : i = 0 := by simpa using hi
                                                                                          subst this; rfl)).alloc _
    · exact ((Below.refl _ _).alloc (Nat.le_refl _) _).alloc (by simp) _
  case round =>
    obtain ⟨j, f, hjg, rfl, hrow, hf0, hres, hsz, hbel⟩ := hrel
    have HJ : Hid (j + gk = r) := hjg
    have HF : Hid (f 0 = .int .u64 hdr) := hf0
    have HZ : Hid (wr.heap.size = w.heap.size + 2) := hsz
    clear hjg hf0 hsz
    by_cases hlt : j < r
    · have hcell : wr.cell? ⟨w.heap.size + 1, 1 + j, none⟩ = some (f (1 + j)) := hrow.cell (by have := HT.out; omega)
      have hfz := hrow.frozen (1 + j)
      go_wp2_with fail
      go_roundg (gk - 1)
      case measure => have := HJ.out; omega
      case rel =>
        have hJ := HJ.out
        refine ⟨j + 1, _, by omega, by go_num, hrow.set (1 + j) _, ?_, hres.setOther (by simp) _, ?_, ?_⟩
        · simp only [show ¬ (0 = 1 + j) by omega, if_false]; exact HF.out
        · simpa using HZ.out
        · exact hbel.setCell (by simp) _
    · have hend : j = r := by have := HJ.out; omega
      subst hend
      have hcp := run_copy_none (P := Ybaf.prog) wr 22 22 3 24 (some ⟨w.heap.size + 1, 0, none⟩) ao 0 0 0 cap Ybaf.underlying22 size24 rfl
      obtain ⟨w2, hw2⟩ : ∃ w2, w2 = wr := ⟨_, rfl⟩
      rw [← hw2] at hrow hres hbel
      have hz : w2.heap.size = w.heap.size + 1 + 1 := by rw [hw2]; exact HZ.out
      have hrow2 := hrow
      have hres2 := hres
      have hb2 := hbel
      have HEND : Hid (∀ v : Int, _) := fun v => heap_end w w2 j 0 top L hdr v ws _ hr (by omega) HT.out (by omega) hz hrow2 HF.out (fun i hi => absurd hi (by omega)) hb2 HE.out.1 HE.out.2
      subst hw2
      have hfr := hres2.frozen 0
      have hcr := hres2.cell (i := 0) (by omega)
      have K1 : ∀ o1 o2, ((w2.alloc o1).alloc o2).cell? ⟨w.heap.size, 0, none⟩ = some (.int .u64 0) := fun o1 o2 => by rw [World.cell?_alloc_past _ _ _ (by simp [hz]; omega), World.cell?_alloc_past _ _ _ (by rw [hz]; omega)]; exact hcr
      have K2 : ∀ o1 o2, ((w2.alloc o1).alloc o2).frozen? ⟨w.heap.size, 0, none⟩ = false := fun o1 o2 => by rw [World.frozen?_alloc_past _ _ _ (by simp [hz]; omega), World.frozen?_alloc_past _ _ _ (by rw [hz]; omega)]; exact hfr
      have K3 : ∀ o1 o2, (((w2.setCell ⟨w.heap.size, 0, none⟩ (.int .u64 1970324836974593)).alloc o1).alloc o2).cell? ⟨w.heap.size, 0, none⟩ = some (.int .u64 1970324836974593) := fun o1 o2 => by
        have h3 := ((hres2.set 0 (.int .u64 1970324836974593)).alloc o1).alloc o2
        exact h3.cell (i := 0) (by omega)
      clear hbel hrow hres hmk hm0 hlt
      clear hrow2 hres2 hfr hcr
      go_wp2
      go_region
      all_goals (try go_wp2)
      all_goals exact bodyPost_ret (v := .tuple #[.pointer (some ⟨w.heap.size + 1 + 1 + 1, 0, none⟩), .agg #[.int .u64 1970324836974593]]) (by simp [results, Ybaf.results7, go_sem, K3]) rfl ⟨_, _, _, rfl, HEND.out _⟩
end Go.Proofs.YbulkuieFmt
