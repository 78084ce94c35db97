/-
  LawS1031CCorrupt (seat b1031aF): the walk where a root is added.
-/
import Derived.Test.YbulkuieFmtCCorrupt
import Derived.Deep.RegionLawGrows
import Derived.Deep.Onto
namespace Go.Proofs.YbulkuieFmt
open Go.RowKit C

set_option maxRecDepth 100000 in
set_option maxHeartbeats 1000000 in
theorem corrupt2 (bs : Nat → Blk) (n cn : Nat) (rs : Nat → Nat) (m cm : Nat) (ao ro : Option Addr) (kv : Nat) (w : World) (hn : n ≤ 1024) (hm : m ≤ 1024) (hb : ∀ k, k < n → BlkIn w ao (bs k) k) (hr : ∀ i, i < m → RootIn w ro (rs i) i) (hkb : kv ≤ 255) (hk : (kv : Int) % 4 = 2) (a : Addr) (s : ByteArray) (hS : Sent w 4 a s) :
    Calls Ybaf.prog 6 #[.slice ao n cn, .slice ro m cm, .int .u8 (kv : Int)] w fun e w' => e = .returned (.bool true) ∧ Below w.heap.size w w' := by
  have K10 := build_any bs n cn rs m cm ao ro w hn hm hb hr
  have hpb := pos_bound bs n
  have howb := ow_le bs n
  go_enter Ybaf.func6, Ybaf.ntmps6
  go_wp2_with (go_at_call 10; refine K10.mono ?_; rintro e w1 ⟨hb', ab, sb, rb, L, H, rfl, D⟩; have c79 := D.hp.cell (i := 79) (by omega); rw [D.h79] at c79; have c6 := D.hp.cell (i := 6) (by omega); rw [D.his.h6] at c6; have hHB : hb' < w1.heap.size := Nat.lt_trans D.o4 D.o5; have HDN : Hid (Done bs n rs m w w1 hb' ab sb rb L H) := D; have f79 := D.hp.frozen 79; obtain ⟨tp, htp⟩ : ∃ tp, tp = pos bs n := ⟨_, rfl⟩; rw [← htp] at c6 hpb; have HTP : Hid (tp = pos bs n) := htp; clear D htp)
  obtain ⟨i0, hi0, hzz⟩ := Option.map_eq_some_iff.1 info24
  simp only [Prod.mk.injEq] at hzz
  obtain ⟨hz0, hz1, hz2⟩ := hzz
  obtain ⟨tq, htq⟩ : ∃ tq, tq = tp + 1 := ⟨_, rfl⟩
  have hw1 : IntKind.u64.wrap ((tp : Nat) : Int) = (tp : Int) := by rw [IntKind.wrap_u64]; omega
  have hw2 : IntKind.u64.wrap (((tp : Nat) : Int) + 1) = (tq : Int) := by rw [IntKind.wrap_u64]; omega
  have HTQ : Hid (tq = pos bs n + 1) := by show _ = _; rw [htq, HTP.out]
  clear htq
  have HOLD : Hid (∀ j u, ((List.range m).map (fun i => Value.int .u64 ((rootOf rs (objs bs n) i : Nat) : Int)))[j]? = some u → ((w1.alloc (.cells #[.int .u64 (tq : Int)] 24)).drew).cell? ((⟨rb, 0, none⟩ : Addr).add j) = some u) := by
    intro j u hj
    rw [add0]
    have hjm : j < m := by
      rcases Nat.lt_or_ge j m with h | h
      · exact h
      · rw [List.getElem?_eq_none (by simpa using h)] at hj; cases hj
    rw [List.getElem?_map, List.getElem?_range hjm] at hj
    simp only [Option.map_some, Option.some.injEq] at hj
    rw [← hj]
    exact (HDN.out.roots.alloc _).drew.cell hjm
  have HNEW : Hid (∀ j u, ([.int .u64 (tq : Int)] : List Value)[j]? = some u → ((w1.alloc (.cells #[.int .u64 (tq : Int)] 24)).drew).cell? ((⟨w1.heap.size, 0, none⟩ : Addr).add j) = some u) := by
    intro j u hj
    cases j with
    | zero =>
      simp only [List.getElem?_cons_zero, Option.some.injEq] at hj
      subst hj
      simp [go_sem, Addr.add]
    | succ j => simp at hj
  have HFIN : Hid (∀ (v' : Value) (w5 : World), w5.ownsRow ((w1.alloc (.cells #[.int .u64 (tq : Int)] 24)).drew).heap.size 24 1 v' (m + 1) ((List.range m).map (fun i => Value.int .u64 ((rootOf rs (objs bs n) i : Nat) : Int)) ++ [.int .u64 (tq : Int)]) → ((w1.alloc (.cells #[.int .u64 (tq : Int)] 24)).drew).grownBy w5 none →
      ∃ g cp, v' = .slice (some ⟨g, 0, none⟩) (m + 1) cp ∧ w5.cell? ⟨hb', 79, none⟩ = some (.slice (some ⟨rb, 0, none⟩) m m) ∧ w5.frozen? ⟨hb', 79, none⟩ = false ∧ Bad w (w5.setCell ⟨hb', 79, none⟩ (.slice (some ⟨g, 0, none⟩) (m + 1) cp)) hb' sb a s) := by
    intro v' w5 hown hgrow
    obtain ⟨g, cp, rfl⟩ := own_form hown (by omega)
    have hB1 : Below w1.heap.size w1 ((w1.alloc (.cells #[.int .u64 (tq : Int)] 24)).drew) := (below_one w1 _).drew
    have hB15 : Below w1.heap.size w1 w5 := hB1.trans ⟨hgrow.os, hgrow.tape, hgrow.output, hgrow.size, fun k hk => hgrow.block k (Nat.lt_of_lt_of_le hk hB1.size) (by simp)⟩
    have hp5 := HDN.out.hp.of_block (hB15.block _ hHB)
    have h79 := hp5.cell (i := 79) (by omega)
    rw [HDN.out.h79] at h79
    refine ⟨g, cp, rfl, h79, hp5.frozen 79, bad_roots HDN.out hn hm hS g cp hB15 ?_⟩
    rw [HTQ.out] at hown
    exact World.ownsRow.mono hown (by simp)
  have q1 : Hid ((some ⟨rb, 0, none⟩ : Option Addr) = none → m = 0 ∧ m = 0) := fun h => by cases h
  have q2 : Hid (((List.range m).map (fun i => Value.int .u64 ((rootOf rs (objs bs n) i : Nat) : Int))).length = m * 1) := by show _ = _; simp
  have q3 : Hid (∀ b, (some ⟨rb, 0, none⟩ : Option Addr) = some b → ∀ j u, ((List.range m).map (fun i => Value.int .u64 ((rootOf rs (objs bs n) i : Nat) : Int)))[j]? = some u → ((w1.alloc (.cells #[.int .u64 (tq : Int)] 24)).drew).cell? (b.add j) = some u) := by
    intro b hb2
    cases hb2
    exact HOLD.out
  have q4 : Hid (∀ u ∈ ([.int .u64 (tq : Int)] : List Value), u.oneCell' = true) := by
    intro u hu
    simp only [List.mem_singleton] at hu
    subst hu; rfl
  have q5 : Hid (m < m + 1) := Nat.lt_succ_self m
  have q6 : Hid (m + 1 ≤ maxLen) := by show _ ≤ _; unfold maxLen; omega
  have q7 : Hid ((m + 1) * 8 ≤ 140737488355328) := by show _ ≤ _; omega
  go_region_law (refine step_append_grows rfl (.tmp 59) (.tmp 66) 22 rfl 24 i0 (.int .u64 0) 1 8 Ybaf.underlying22 hi0 hz0 hz1 hz2 rfl (by decide) (some ⟨rb, 0, none⟩) m m ((List.range m).map (fun i => Value.int .u64 ((rootOf rs (objs bs n) i : Nat) : Int))) (by simp [Act.eval]) q1.out q2.out q3.out ⟨w1.heap.size, 0, none⟩ 1 1 [.int .u64 (tq : Int)] (by simp [Act.eval]) rfl HNEW.out q4.out q5.out q6.out q7.out ?_; intro v' w5 hown hgrow; obtain ⟨g, cp, rfl, c79b, f79b, hBad⟩ := HFIN.out v' w5 hown hgrow; clear hown hgrow)
  all_goals go_wp2_with fail
  all_goals
    have cg := hBad.sent.cg
    have K11 := hBad.run
    have hn4 := hBad.n4
    have hl4 := hBad.sent.lg
    have HBAD : Hid _ := hBad
    clear hBad
    go_region_with (first
      | (go_at_call 11; refine K11.mono ?_; rintro e w4 ⟨hb4, t, xx, rfl, hee⟩; have cg4 : w4.cell? ⟨4, 0, none⟩ = some (.iface 99 (.pointer (some a))) := (hb4.cell (p := ⟨4, 0, none⟩) hl4 hn4).trans cg)
      | (go_at_call 9; refine (is_err hee).mono ?_; rintro e w5 ⟨rfl, hw5⟩; rw [hw5]))
    all_goals go_wp2_with fail
    all_goals go_ret
    all_goals exact ⟨rfl, bad_end HBAD.out hb4⟩


end Go.Proofs.YbulkuieFmt
