/-
  (*Heap).ref of the seat b1031a: what the call gives, at address 0 and at any other. And the cells of a zero Heap.
-/
import Derived.Test.YbulkuieRows
import Derived.WalkKit
import Derived.ProofKit
namespace Go.Proofs.Ybulkuie
open Go.ChangeShapes Go.WideShapes Go.ChangeAt Go.RowKit

/-- The cells of a zero Heap. -/
def zc39 : Array Value := #[.int .i64 0, .int .u64 0, .int .u64 0, .int .u64 0, .slice none 0 0, .slice none 0 0, .int .i64 0, .int .i64 0, .int .i64 0, .slice none 0 0] ++ Array.replicate 66 (.int .u64 0) ++ #[.slice none 0 0, .int .i64 0, .bool false, .slice none 0 0, .int .i64 0] ++ Array.replicate 8 (.int .i64 0)
theorem zc39_size : zc39.size = 89 := by rfl
theorem zc39_ne : ¬ zc39 = #[] := by intro h; have := zc39_size; rw [h] at this; simp at this
theorem zero39 (w : World) : (zeroValue 39).run Yba.prog w = .ok (.agg zc39) w := by kernel_rfl

theorem ref_zero (b : Nat) (w : World) :
    Calls Yba.prog 5 #[.pointer (some ⟨b, 0, none⟩), .int .u64 0] w fun e w' => e = .returned (.agg #[.int .u64 0]) ∧ ∃ c, w' = w.alloc (.cells c 41) := by
  go_enter Yba.func5, Yba.ntmps5
  go_wp2
  simp [bodyPost, results, Yba.results5, go_sem]
  exact ⟨_, rfl⟩
theorem ref_other (b : Nat) (a0 a1 : Int) (w : World) (hz : (a1 == 0) = false) (hb : b < w.heap.size) (hc : w.cell? ⟨b, 2, none⟩ = some (.int .u64 a0)) :
    Calls Yba.prog 5 #[.pointer (some ⟨b, 0, none⟩), .int .u64 a1] w fun e w' => e = .returned (.agg #[.int .u64 (bits .or .u64 a0 a1)]) ∧ ∃ c, w' = w.alloc (.cells c 41) := by
  have hc' : ∀ o, (w.alloc o).cell? ⟨b, 2, none⟩ = some (.int .u64 a0) := fun o => by rw [World.cell?_alloc_past _ _ _ hb]; exact hc
  clear hc
  go_enter Yba.func5, Yba.ntmps5
  go_wp2
  simp [bodyPost, results, Yba.results5, go_sem]
  exact ⟨_, rfl⟩
end Go.Proofs.Ybulkuie
