/-
  copy into a row that the call itself made, said by index ('World.rowIs'); the zero Heap's cells; make's facts at this dump (seat b1031aF).
-/
import Derived.Test.YbulkuieFmtChecked
import Derived.WalkKit
import Derived.Deep.OwnRows
import Derived.Laws.CopyOwn
namespace Go.Proofs.YbulkuieFmt
open Go.RowKit

theorem info24 : (Ybaf.prog.info? 24).map (fun i => (i.zero, i.size, i.bytes)) = some (some (.int .u64 0), 1, 8) := by kernel_rfl
theorem size24 : (Ybaf.prog.info? 24).map (·.size) = some 1 := by kernel_rfl
theorem made_at (n i : Nat) (z : Value) (h : i < n) : (madeCells #[z] n)[i]? = some z := by simp [madeCells, h, Nat.mod_one]

/-- The cells of a zero Heap. -/
def zc53 : Array Value := #[.int .i64 0, .int .u64 0, .int .u64 0, .int .u64 0, .slice none 0 0, .slice none 0 0, .int .i64 0, .int .i64 0, .int .i64 0, .slice none 0 0] ++ Array.replicate 66 (.int .u64 0) ++ #[.slice none 0 0, .int .i64 0, .bool false, .slice none 0 0, .int .i64 0] ++ Array.replicate 8 (.int .i64 0)
theorem zc53_size : zc53.size = 89 := by rfl
theorem zc53_ne : ¬ zc53 = #[] := by intro h; have := zc53_size; rw [h] at this; simp at this
theorem zero53 (w : World) : (zeroValue 53).run Ybaf.prog w = .ok (.agg zc53) w := by kernel_rfl

/-- copy(dst, src): dst from place o on in the row g, n cells. -/
theorem copy_rows (dT sT ty : TypeId) (hu : Ybaf.prog.underlying dT = some (.slice 24)) (w : World) (g o dLen dCap : Nat) (src : Addr) (sLen sCap n N : Nat) (f s : Nat → Value) (hrow : w.rowIs g 24 N f) (hn : n = min sLen dLen)
    (hs : ∀ j, j < n → w.cell? (src.add j) = some (s j)) (hfit : o + n ≤ N) (hone : ∀ j, j < n → (s j).oneCell' = true) :
    ∃ w2, (Builtin.copy_ #[dT, sT] ty #[.slice (some ⟨g, o, none⟩) dLen dCap, .slice (some src) sLen sCap]).run Ybaf.prog w = .ok (.int .i64 n) w2 ∧
      w2.rowIs g 24 N (fun i => if o ≤ i ∧ i < o + n then s (i - o) else f i) ∧ (∀ B, B ≤ g → Below B w w2) ∧ (∀ b, b ≠ g → w2.heap[b]? = w.heap[b]?) ∧ w2.heap.size = w.heap.size := by
  obtain ⟨c, hcb, hcn, hcc⟩ := hrow
  have hlen : ((List.range n).map s).length = n := by simp
  have hrun := run_copy_row (P := Ybaf.prog) w dT sT ty 24 g o dLen dCap src sLen sCap c 24 ((List.range n).map s) hu size24 hcb (by rw [hlen, hn])
    (fun j v hj => by
      rw [List.getElem?_map] at hj
      rcases Nat.lt_or_ge j n with h | h
      · rw [List.getElem?_range h] at hj
        simp only [Option.map_some, Option.some.injEq] at hj
        rw [← hj]; exact hs j h
      · rw [List.getElem?_eq_none (by simpa using h)] at hj; cases hj)
    (by rw [hlen, hcn]; exact hfit)
    (fun v hv => by
      obtain ⟨j, hj, rfl⟩ := List.mem_map.1 hv
      exact hone j (by simpa using hj))
  rw [hlen] at hrun
  refine ⟨_, hrun, ?_, fun B hB => below_setRow (Below.refl _ _) hB _, fun b hb => setRow_other w g b _ hb, by simp [World.setRow]⟩
  refine ⟨_, setRow_heap w g c _ 24 (0, 0) hcb, ?_, fun i hi => ?_⟩
  · simp [hcn]; omega
  · have hi' : i < c.size := by rw [hcn]; exact hi
    have hcs : c.toList.length = N := by simpa using hcn
    rw [List.getElem?_toArray]
    show _ = some (if o ≤ i ∧ i < o + n then s (i - o) else f i)
    by_cases h1 : i < o
    · rw [if_neg (by omega), List.append_assoc, List.getElem?_append_left (by simp; omega), List.getElem?_take_of_lt h1]
      simpa using hcc i hi
    · by_cases h2 : i < o + n
      · rw [if_pos ⟨by omega, h2⟩, List.append_assoc, List.getElem?_append_right (by simp; omega)]
        have e : (List.take o c.toList).length = o := by simp; omega
        rw [e, List.getElem?_append_left (by simp; omega), List.getElem?_map, List.getElem?_range (by omega)]
        rfl
      · rw [if_neg (by omega), List.getElem?_append_right (by simp; omega)]
        have e : (List.take o c.toList ++ List.map s (List.range n)).length = o + n := by simp; omega
        rw [e, List.getElem?_drop, show o + n + (i - (o + n)) = i by omega]
        simpa using hcc i hi
end Go.Proofs.YbulkuieFmt
