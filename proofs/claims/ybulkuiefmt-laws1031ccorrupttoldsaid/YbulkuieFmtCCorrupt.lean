/-
  LawS1031CCorrupt (seat b1031aF): the walks.
-/
import Derived.Test.YbulkuieFmtCSound
import Derived.Deep.RegionWith
namespace Go.Proofs.YbulkuieFmt
open Go.RowKit C

/-- A world in which Verify finds fault. -/
structure Bad (w W : World) (hb sb : Nat) (a : Addr) (s : ByteArray) : Prop where
  bel : Below w.heap.size w W
  hsb : w.heap.size ≤ sb
  sent : Sent W 4 a s
  n4 : 4 ≠ sb
  na : a.block ≠ sb
  run : Calls Ybaf.prog 11 #[.pointer (some ⟨hb, 0, none⟩)] W.drew fun e w' => But sb W.drew w' ∧ ∃ t x, e = .returned (.iface t x) ∧ ErrAt w' t x a

section
variable {bs : Nat → Blk} {n : Nat} {rs : Nat → Nat} {m : Nat} {w w1 : World} {hb ab sb rb L : Nat} {H : Nat → Value}

theorem Done.sound (D : Done bs n rs m w w1 hb ab sb rb L H) {a : Addr} {s : ByteArray} (hS : Sent w 4 a s) : 4 ≠ sb ∧ a.block ≠ sb ∧ Sent w1 4 a s := by
  have h1 := D.o1; have h2 := D.o2
  exact ⟨by have := hS.lg; omega, by have := hS.la; omega, hS.mono (Nat.le_refl _) D.bel⟩

theorem bad_foot (D : Done bs n rs m w w1 hb ab sb rb L H) (hn : n ≤ 1024) (hm : m ≤ 1024) {a : Addr} {s : ByteArray} (hS : Sent w 4 a s) :
    Bad w (w1.setCell ⟨hb, 85, none⟩ (.int .i64 ((100 + ((ow bs n : Nat) : Int)) * 8 + 8))) hb sb a s := by
  have h1 := D.o1; have h2 := D.o2; have h3 := D.o3; have h4 := D.o4; have h5 := D.o5
  have hpb := pos_bound bs n
  have hLL := D.hL
  obtain ⟨n4, na, hS1⟩ := D.sound hS
  have G := Mid.grown_set w1 hb 85 (.int .i64 ((100 + ((ow bs n : Nat) : Int)) * 8 + 8))
  have hB := Mid.below_grown D.bel G (by omega)
  have hS2 := hS.mono (Nat.le_refl _) hB
  have hU : ∀ i, i ≠ 85 → upd H 85 (.int .i64 ((100 + ((ow bs n : Nat) : Int)) * 8 + 8)) i = H i := fun i hi => upd_other _ _ _ _ hi
  have LD := laid_of (bs := bs) (n := n) (rs := rs) (m0 := m) (hb := hb) (ab := ab) (sb := sb) (rb := rb) (L := L) (nz := ne bs n) (m := m) (mc := m) (R := rootOf rs (objs bs n)) (foot := (100 + ((ow bs n : Nat) : Int)) * 8 + 8) (C := B bs n) (H := upd H 85 (.int .i64 ((100 + ((ow bs n : Nat) : Int)) * 8 + 8)))
    hS2 n4 na hn hm (by omega) (by omega) (by omega) (by simpa using h5) hLL (D.arena.of_block (Mid.grown G (by omega) (by omega))) (D.bits.of_block (Mid.grown G (by omega) (by omega))) ((D.hp.set 85 _).congr (fun j _ => by unfold upd; split <;> rfl))
    ⟨(hU _ (by omega)).trans D.his.h4, (hU _ (by omega)).trans D.his.h6, (hU _ (by omega)).trans D.his.h7, (hU _ (by omega)).trans D.his.h9, fun z hz => (hU _ (by omega)).trans (D.his.hs z hz), (hU _ (by omega)).trans D.his.h74, (hU _ (by omega)).trans D.his.h75⟩
    ((hU _ (by omega)).trans D.h79) ((hU _ (by omega)).trans D.h80) (upd_same _ _ _) ((hU _ (by omega)).trans D.h87)
    (fun i hi => (D.roots.of_block (Mid.grown G h5 (by omega))).cell hi) (fun _ _ => rfl) (fun _ h => h) (fun _ _ h => h) (ne_lt64 bs n)
  exact ⟨hB, by omega, hS2, n4, na, verify_foot (LD.drewN 1) (cnt_B bs n (64 * L) (by omega)) rfl⟩

theorem bad_count (D : Done bs n rs m w w1 hb ab sb rb L H) (hn : n ≤ 1024) (hm : m ≤ 1024) {a : Addr} {s : ByteArray} (hS : Sent w 4 a s) {w2 : World} (v : Value) (i : Nat) (hw : w2 = w1.drew.setCell ⟨sb, i, none⟩ v) (hC : BitsAt w2 sb L (upd (B bs n) (pos bs n) true)) :
    Bad w w2 hb sb a s := by
  have h1 := D.o1; have h2 := D.o2; have h3 := D.o3; have h4 := D.o4; have h5 := D.o5
  have hpb := pos_bound bs n
  have hLL := D.hL
  obtain ⟨n4, na, hS1⟩ := D.sound hS
  have G := Mid.grown_set w1.drew sb i v
  rw [← hw] at G
  have hB := Mid.below_grown (wr := w1.drew) D.bel.drew G (by omega)
  have hS2 := hS.mono (Nat.le_refl _) hB
  have LD := laid_of (bs := bs) (n := n) (rs := rs) (m0 := m) (w := w2) (hb := hb) (ab := ab) (sb := sb) (rb := rb) (L := L) (nz := ne bs n) (m := m) (mc := m) (R := rootOf rs (objs bs n)) (foot := (100 + ((ow bs n : Nat) : Int)) * 8) (C := upd (B bs n) (pos bs n) true) (H := H)
    hS2 n4 na hn hm (by omega) (by omega) (by omega) (Nat.lt_of_lt_of_le h5 G.size) hLL (D.arena.of_block (Mid.grown (wr := w1.drew) G (by show ab < w1.heap.size; omega) (by omega))) hC (D.hp.of_block (Mid.grown (wr := w1.drew) G (by show hb < w1.heap.size; omega) (by omega))) D.his D.h79 D.h80 D.h85 D.h87
    (fun i hi => (D.roots.of_block (Mid.grown (wr := w1.drew) G h5 (by omega))).cell hi) (fun _ _ => rfl) (fun p h => by unfold upd; split <;> simp [h]) (fun p hp h => by rw [upd_other _ _ _ _ (by omega)]; exact h) (ne_lt64 bs n)
  refine ⟨hB, by omega, hS2, n4, na, verify_count (LD.drewN 1) ?_⟩
  rw [cnt_upd (by omega) (B_beyond bs (Nat.le_refl _)), cnt_B bs n (64 * L) (by omega)]

theorem or_one (bs : Nat → Blk) (n z : Nat) : (ne bs n ||| 1).testBit z = (decide (lnk (chain bs z n) ≠ 0) || decide (z = 0)) := by
  rw [Nat.testBit_or, ne_bit]
  congr 1
  rw [show (1 : Nat) = 2 ^ 0 from rfl, Nat.testBit_two_pow]
  by_cases h : z = 0
  · subst h; rfl
  · simp [h, Ne.symm h]

theorem bad_lists (D : Done bs n rs m w w1 hb ab sb rb L H) (hn : n ≤ 1024) (hm : m ≤ 1024) {a : Addr} {s : ByteArray} (hS : Sent w 4 a s) :
    Bad w (w1.setCell ⟨hb, 74, none⟩ (.int .u64 ((ne bs n ||| 1 : Nat) : Int))) hb sb a s := by
  have h1 := D.o1; have h2 := D.o2; have h3 := D.o3; have h4 := D.o4; have h5 := D.o5
  have hpb := pos_bound bs n
  have hLL := D.hL
  obtain ⟨n4, na, hS1⟩ := D.sound hS
  have G := Mid.grown_set w1 hb 74 (.int .u64 ((ne bs n ||| 1 : Nat) : Int))
  have hB := Mid.below_grown D.bel G (by omega)
  have hS2 := hS.mono (Nat.le_refl _) hB
  have hU : ∀ i, i ≠ 74 → upd H 74 (.int .u64 ((ne bs n ||| 1 : Nat) : Int)) i = H i := fun i hi => upd_other _ _ _ _ hi
  have hne : ne bs n ||| 1 < 2 ^ 10 := Nat.or_lt_two_pow (ne_lt bs n) (by decide)
  have LD := laid_of (bs := bs) (n := n) (rs := rs) (m0 := m) (hb := hb) (ab := ab) (sb := sb) (rb := rb) (L := L) (nz := ne bs n ||| 1) (m := m) (mc := m) (R := rootOf rs (objs bs n)) (foot := (100 + ((ow bs n : Nat) : Int)) * 8) (C := B bs n) (H := upd H 74 (.int .u64 ((ne bs n ||| 1 : Nat) : Int)))
    hS2 n4 na hn hm (by omega) (by omega) (by omega) (by simpa using h5) hLL (D.arena.of_block (Mid.grown G (by omega) (by omega))) (D.bits.of_block (Mid.grown G (by omega) (by omega))) ((D.hp.set 74 _).congr (fun j _ => by unfold upd; split <;> rfl))
    ⟨(hU _ (by omega)).trans D.his.h4, (hU _ (by omega)).trans D.his.h6, (hU _ (by omega)).trans D.his.h7, (hU _ (by omega)).trans D.his.h9, fun z hz => (hU _ (by omega)).trans (D.his.hs z hz), upd_same _ _ _, (hU _ (by omega)).trans D.his.h75⟩
    ((hU _ (by omega)).trans D.h79) ((hU _ (by omega)).trans D.h80) ((hU _ (by omega)).trans D.h85) ((hU _ (by omega)).trans D.h87)
    (fun i hi => (D.roots.of_block (Mid.grown G h5 (by omega))).cell hi) (fun _ _ => rfl) (fun _ h => h) (fun _ _ h => h) (by omega)
  exact ⟨hB, by omega, hS2, n4, na, verify_lists (LD.drewN 1) (cnt_B bs n (64 * L) (by omega)) rfl (fun z _ => or_one bs n z)⟩
end

theorem bad_end {w W w4 : World} {hb sb : Nat} {a : Addr} {s : ByteArray} (h : Bad w W hb sb a s) (hb4 : But sb W.drew w4) : Below w.heap.size w w4 :=
  h.bel.drew.trans (hb4.below h.bel.size h.hsb)

set_option maxRecDepth 100000 in
set_option maxHeartbeats 1000000 in
theorem corrupt0 (bs : Nat → Blk) (n cn : Nat) (rs : Nat → Nat) (m cm : Nat) (ao ro : Option Addr) (kv : Nat) (w : World) (hn : n ≤ 1024) (hm : m ≤ 1024) (hb : ∀ k, k < n → BlkIn w ao (bs k) k) (hr : ∀ i, i < m → RootIn w ro (rs i) i) (hkb : kv ≤ 255) (hk : (kv : Int) % 4 = 0) (a : Addr) (s : ByteArray) (hS : Sent w 4 a s) :
    Calls Ybaf.prog 6 #[.slice ao n cn, .slice ro m cm, .int .u8 (kv : Int)] w fun e w' => e = .returned (.bool true) ∧ Below w.heap.size w w' := by
  have K10 := build_any bs n cn rs m cm ao ro w hn hm hb hr
  have hpb := pos_bound bs n
  have howb := ow_le bs n
  go_enter Ybaf.func6, Ybaf.ntmps6
  go_wp2_with (go_at_call 10; refine K10.mono ?_; rintro e w1 ⟨hb', ab, sb, rb, L, H, rfl, D⟩; have c85 := D.hp.cell (i := 85) (by omega); rw [D.h85] at c85; have f85 := D.hp.frozen 85; have hBad := bad_foot D hn hm hS; obtain ⟨ov, hov⟩ : ∃ ov, ov = ow bs n := ⟨_, rfl⟩; rw [← hov] at c85 hBad; have hov2 : ov ≤ 9216 := (by omega); clear hov D)
  have cg := hBad.sent.cg
  have K11 := hBad.run
  have hn4 := hBad.n4
  have hl4 := hBad.sent.lg
  have HBAD : Hid _ := hBad
  clear hBad
  go_region_with (first
    | (go_at_call 11; refine K11.mono ?_; rintro e w4 ⟨hb4, t, xx, rfl, hee⟩; have cg4 : w4.cell? ⟨4, 0, none⟩ = some (.iface 99 (.pointer (some a))) := (hb4.cell (p := ⟨4, 0, none⟩) hl4 hn4).trans cg)
    | (go_at_call 9; refine (is_err hee).mono ?_; rintro e w5 ⟨rfl, hw5⟩; rw [hw5]))
  all_goals go_wp2_with fail
  all_goals go_ret
  all_goals exact ⟨rfl, bad_end HBAD.out hb4⟩

set_option maxRecDepth 100000 in
set_option maxHeartbeats 1000000 in
theorem corrupt3 (bs : Nat → Blk) (n cn : Nat) (rs : Nat → Nat) (m cm : Nat) (ao ro : Option Addr) (kv : Nat) (w : World) (hn : n ≤ 1024) (hm : m ≤ 1024) (hb : ∀ k, k < n → BlkIn w ao (bs k) k) (hr : ∀ i, i < m → RootIn w ro (rs i) i) (hkb : kv ≤ 255) (hk : (kv : Int) % 4 = 3) (a : Addr) (s : ByteArray) (hS : Sent w 4 a s) :
    Calls Ybaf.prog 6 #[.slice ao n cn, .slice ro m cm, .int .u8 (kv : Int)] w fun e w' => e = .returned (.bool true) ∧ Below w.heap.size w w' := by
  have K10 := build_any bs n cn rs m cm ao ro w hn hm hb hr
  have hpb := pos_bound bs n
  have howb := ow_le bs n
  go_enter Ybaf.func6, Ybaf.ntmps6
  go_wp2_with (go_at_call 10; refine K10.mono ?_; rintro e w1 ⟨hb', ab, sb, rb, L, H, rfl, D⟩; have c74 := D.hp.cell (i := 74) (by omega); rw [D.his.h74] at c74; have f74 := D.hp.frozen 74; have hBad := bad_lists D hn hm hS; have hor := u64_or_nat (ne bs n) 1 (ne_lt64 bs n) (by decide); rw [show ((1 : Nat) : Int) = 1 from rfl] at hor; generalize ne bs n ||| 1 = nz1 at hBad hor; generalize ne bs n = nz0 at c74 hor; clear D)
  have cg := hBad.sent.cg
  have K11 := hBad.run
  have hn4 := hBad.n4
  have hl4 := hBad.sent.lg
  have HBAD : Hid _ := hBad
  clear hBad
  go_region_with (first
    | (go_at_call 11; refine K11.mono ?_; rintro e w4 ⟨hb4, t, xx, rfl, hee⟩; have cg4 : w4.cell? ⟨4, 0, none⟩ = some (.iface 99 (.pointer (some a))) := (hb4.cell (p := ⟨4, 0, none⟩) hl4 hn4).trans cg)
    | (go_at_call 9; refine (is_err hee).mono ?_; rintro e w5 ⟨rfl, hw5⟩; rw [hw5]))
  all_goals go_wp2_with fail
  all_goals go_ret
  all_goals exact ⟨rfl, bad_end HBAD.out hb4⟩

set_option maxRecDepth 100000 in
set_option maxHeartbeats 1000000 in
theorem corrupt1 (bs : Nat → Blk) (n cn : Nat) (rs : Nat → Nat) (m cm : Nat) (ao ro : Option Addr) (kv : Nat) (w : World) (hn : n ≤ 1024) (hm : m ≤ 1024) (hb : ∀ k, k < n → BlkIn w ao (bs k) k) (hr : ∀ i, i < m → RootIn w ro (rs i) i) (hkb : kv ≤ 255) (hk : (kv : Int) % 4 = 1) (a : Addr) (s : ByteArray) (hS : Sent w 4 a s) :
    Calls Ybaf.prog 6 #[.slice ao n cn, .slice ro m cm, .int .u8 (kv : Int)] w fun e w' => e = .returned (.bool true) ∧ Below w.heap.size w w' := by
  have K10 := build_any bs n cn rs m cm ao ro w hn hm hb hr
  have hpb := pos_bound bs n
  have howb := ow_le bs n
  go_enter Ybaf.func6, Ybaf.ntmps6
  go_wp2_with (go_at_call 10; refine K10.mono ?_; rintro e w1 ⟨hb', ab, sb, rb, L, H, rfl, D⟩; have c9 := D.hp.cell (i := 9) (by omega); rw [D.his.h9] at c9; have c6 := D.hp.cell (i := 6) (by omega); rw [D.his.h6] at c6; have HU := set_bits (w := w1.drew) (k := pos bs n) (D.bits.of_block (w' := w1.drew) rfl) (by have := D.hL; omega) (by have := D.hL; omega); have HBC := fun (w2 : World) (v : Value) (i : Nat) (hw : w2 = w1.drew.setCell ⟨sb, i, none⟩ v) (hC : BitsAt w2 sb L (upd (B bs n) (pos bs n) true)) => bad_count D hn hm hS v i hw hC; generalize pos bs n = top at *; clear D)
  go_region_with (go_at_call 12; refine HU.mono ?_; rintro e w2 ⟨rfl, hB2, v, hv⟩; have hBad := HBC w2 v _ hv hB2; clear hv)
  all_goals go_wp2_with fail
  all_goals
    have cg := hBad.sent.cg
    have K11 := hBad.run
    have hn4 := hBad.n4
    have hl4 := hBad.sent.lg
    have HBAD : Hid _ := hBad
    clear hBad
    go_region_with (first
      | (go_at_call 11; refine K11.mono ?_; rintro e w4 ⟨hb4, t, xx, rfl, hee⟩; have cg4 : w4.cell? ⟨4, 0, none⟩ = some (.iface 99 (.pointer (some a))) := (hb4.cell (p := ⟨4, 0, none⟩) hl4 hn4).trans cg)
      | (go_at_call 9; refine (is_err hee).mono ?_; rintro e w5 ⟨rfl, hw5⟩; rw [hw5]))
    all_goals go_wp2_with fail
    all_goals go_ret
    all_goals exact ⟨rfl, bad_end HBAD.out hb4⟩


/-- The roots' row grown by one. -/
theorem bad_roots {bs : Nat → Blk} {n : Nat} {rs : Nat → Nat} {m : Nat} {w w1 w2 : World} {hb ab sb rb L : Nat} {H : Nat → Value} (D : Done bs n rs m w w1 hb ab sb rb L H) (hn : n ≤ 1024) (hm : m ≤ 1024) {a : Addr} {s : ByteArray} (hS : Sent w 4 a s) (g cp : Nat)
    (hB12 : Below w1.heap.size w1 w2) (hown : w2.ownsRow w1.heap.size 24 1 (.slice (some ⟨g, 0, none⟩) (m + 1) cp) (m + 1) ((List.range m).map (fun i => Value.int .u64 ((rootOf rs (objs bs n) i : Nat) : Int)) ++ [.int .u64 ((pos bs n + 1 : Nat) : Int)])) :
    Bad w (w2.setCell ⟨hb, 79, none⟩ (.slice (some ⟨g, 0, none⟩) (m + 1) cp)) hb sb a s := by
  have h1 := D.o1; have h2 := D.o2; have h3 := D.o3; have h4 := D.o4; have h5 := D.o5
  have hpb := pos_bound bs n
  have hLL := D.hL
  obtain ⟨n4, na, hS1⟩ := D.sound hS
  have hgl := hown.lt g rfl
  have G := Mid.grown_set w2 hb 79 (.slice (some ⟨g, 0, none⟩) (m + 1) cp)
  have hB2 : Below w.heap.size w w2 := D.bel.trans (hB12.mono D.bel.size)
  have hB := Mid.below_grown hB2 G (by omega)
  have hS2 := hS.mono (Nat.le_refl _) hB
  have hz := hB12.size
  have hU : ∀ i, i ≠ 79 → upd H 79 (.slice (some ⟨g, 0, none⟩) (m + 1) cp) i = H i := fun i hi => upd_other _ _ _ _ hi
  have hcr : ∀ i, i < m + 1 → (w2.setCell ⟨hb, 79, none⟩ (.slice (some ⟨g, 0, none⟩) (m + 1) cp)).cell? ⟨g, i, none⟩ = some (.int .u64 (((if i < m then rootOf rs (objs bs n) i else pos bs n + 1 : Nat)) : Int)) := by
    intro i hi
    rw [World.cell?_of_block (a := ⟨g, i, none⟩) (Mid.grown G hgl.2 (by show g ≠ hb; omega)), hown.cellAt i (by omega)]
    by_cases him : i < m
    · rw [List.getElem?_append_left (by simpa using him), if_pos him]
      simp [him]
    · have : i = m := by omega
      subst this
      rw [List.getElem?_append_right (by simp), if_neg him]
      simp
  have LD := laid_of (bs := bs) (n := n) (rs := rs) (m0 := m) (hb := hb) (ab := ab) (sb := sb) (rb := g) (L := L) (nz := ne bs n) (m := m + 1) (mc := cp) (R := fun i => if i < m then rootOf rs (objs bs n) i else pos bs n + 1) (foot := (100 + ((ow bs n : Nat) : Int)) * 8) (C := B bs n) (H := upd H 79 (.slice (some ⟨g, 0, none⟩) (m + 1) cp))
    hS2 n4 na hn hm (by omega) (by omega) (by omega) (by simpa using hgl.2) hLL ((D.arena.of_block (hB12.block _ (by omega))).of_block (Mid.grown G (by omega) (by omega))) ((D.bits.of_block (hB12.block _ (by omega))).of_block (Mid.grown G (by omega) (by omega))) (((D.hp.of_block (hB12.block _ (by omega))).set 79 _).congr (fun j _ => by unfold upd; split <;> rfl))
    ⟨(hU _ (by omega)).trans D.his.h4, (hU _ (by omega)).trans D.his.h6, (hU _ (by omega)).trans D.his.h7, (hU _ (by omega)).trans D.his.h9, fun z hz => (hU _ (by omega)).trans (D.his.hs z hz), (hU _ (by omega)).trans D.his.h74, (hU _ (by omega)).trans D.his.h75⟩
    (upd_same _ _ _) ((hU _ (by omega)).trans D.h80) ((hU _ (by omega)).trans D.h85) ((hU _ (by omega)).trans D.h87)
    hcr (fun i hi => by simp only [hi, if_true]) (fun _ h => h) (fun _ _ h => h) (ne_lt64 bs n)
  exact ⟨hB, by omega, hS2, n4, na, verify_roots (LD.drewN 1) (cnt_B bs n (64 * L) (by omega)) rfl rfl (by simp)⟩


theorem own_form {w : World} {base n : Nat} {e : TypeId} {v : Value} {xs : List Value} (h : w.ownsRow base e 1 v n xs) (hn : 0 < n) : ∃ g cap, v = .slice (some ⟨g, 0, none⟩) n cap := by
  rcases h.2 with ⟨_, h0⟩ | ⟨g, cap, cur, hv, _⟩
  · omega
  · exact ⟨g, cap, hv⟩

set_option maxRecDepth 100000 in
theorem corrupt_long (n cn m cm : Nat) (ao ro : Option Addr) (kv : Int) (w : World) (h : 1024 < n ∨ 1024 < m) (hn : n ≤ 9223372036854775807) (hm : m ≤ 9223372036854775807) :
    Calls Ybaf.prog 6 #[.slice ao n cn, .slice ro m cm, .int .u8 kv] w fun e w' => e = .returned (.bool true) ∧ Below w.heap.size w w' := by
  by_cases h1 : 1024 < n
  · have hd : decide ((1024 : Int) < (n : Int)) = true := by simp; omega
    go_enter Ybaf.func6, Ybaf.ntmps6
    go_wp2_with fail
    go_ret
    exact ⟨rfl, Below.refl _ _⟩
  · have h2 : 1024 < m := by omega
    have hd : decide ((1024 : Int) < (n : Int)) = false := by simp; omega
    have hd2 : decide ((1024 : Int) < (m : Int)) = true := by simp; omega
    go_enter Ybaf.func6, Ybaf.ntmps6
    go_wp2_with fail
    go_ret
    exact ⟨rfl, Below.refl _ _⟩
end Go.Proofs.YbulkuieFmt
