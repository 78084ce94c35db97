/-
  The small functions on the road of LawS1036CSources (seat b1036a): blockList.at, newMapping, newSource.
-/
import Derived.Test.YbulkukwChecked
import Derived.WalkKit
import Derived.Below
namespace Go.Proofs.Ybulkukw
open Go.RowKit

theorem below_one (w : World) (o : Obj) : Below w.heap.size w (w.alloc o) := (Below.refl _ _).alloc (Nat.le_refl _) _

/-- blockList.at on a list of one block. -/
theorem at_one (b o g g2 n cp i : Nat) (w : World) (hi : i < n) (hn : n ≤ 1024) (c0 : w.cell? ⟨b, o, none⟩ = some (.slice (some ⟨g, 0, none⟩) 1 cp)) (c1 : w.cell? ⟨g, 0, none⟩ = some (.slice (some ⟨g2, 0, none⟩) n n)) :
    Calls Yba.prog 7 #[.pointer (some ⟨b, o, none⟩), .int .i64 (i : Int)] w fun e w' => e = .returned (.pointer (some ⟨g2, i * 3, none⟩)) ∧ w' = w := by
  have h1 : (i : Int) / 65536 = 0 := by omega
  have h2 : (i : Int) % 65536 = (i : Int) := by omega
  go_enter Yba.func7, Yba.ntmps7
  go_wp2_with fail
  go_ret
  exact ⟨rfl, rfl⟩

theorem mapping_any (x : Int) (w : World) : Calls Yba.prog 10 #[.int .u64 x] w fun e w' => e = .returned (.agg #[.int .u64 x, .int .u64 0]) ∧ w' = w.alloc (.cells #[.int .u64 x, .int .u64 0] 35) := by
  go_enter Yba.func10, Yba.ntmps10
  go_wp2
  exact bodyPost_ret (v := .agg #[.int .u64 x, .int .u64 0]) (by simp [results, Yba.results10, go_sem]) rfl ⟨rfl, rfl⟩

theorem source_any (x : Int) (w : World) : Calls Yba.prog 9 #[.int .u64 x] w fun e w' => e = .returned (.agg #[.int .u64 x, .int .u64 x, .int .u64 0]) ∧ Below w.heap.size w w' := by
  go_enter Yba.func9, Yba.ntmps9
  go_wp2_with (go_at_call 10; refine (mapping_any _ _).mono ?_; rintro e w' ⟨rfl, rfl⟩)
  exact bodyPost_ret (v := .agg #[.int .u64 x, .int .u64 x, .int .u64 0]) (by simp [results, Yba.results9, go_sem]) rfl ⟨rfl, ((Below.refl _ _).alloc (Nat.le_refl _) _).alloc (by simp) _⟩
end Go.Proofs.Ybulkukw
