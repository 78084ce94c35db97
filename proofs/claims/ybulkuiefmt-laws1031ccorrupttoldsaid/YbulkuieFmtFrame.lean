/-
  What every told and tied card of the seat b1031aF wants: closed facts on the program; the start for the witness (the heap that the door's own run leaves); from 'laid' to the sentinels' cells.
-/
import Derived.Test.YbulkuieFmtRows
import Derived.Test.YbulkuieFmtBRead
import Derived.ProofKit
import Derived.OpenShut
import Derived.OpenVars
import Derived.LaidMore
import Derived.MakeChecks
import Derived.Stop.LaidErr
import Derived.Deep.DeepWitnessRef
import Derived.Stop.JoinedTold
namespace Go.Proofs.YbulkuieFmt
open Go.ChangeShapes Go.WideShapes Go.ChangeAt Go.RowKit
open Go.Extern.Stop Go.Stop Go.Extern

theorem own : ownKnob Ybaf.prog.godebug = none := by kernel_rfl
theorem laidOut : laidOutB Ybaf.pinned.checked.prog = true := by kernel_rfl
theorem stops : Ybaf.pinned.checked.prog.stops = ["fmt.errorf"] := by kernel_rfl
theorem stopKnobs : Ybaf.pinned.checked.prog.stopKnobs = [] := by kernel_rfl
theorem quiet (os : Os) : Stop.quiet Ybaf.pinned.checked.prog os := by
  intro k hk
  rw [stopKnobs] at hk
  cases hk
theorem star : "*" ++ "errors.errorString" = "*errors.errorString" := by decide
theorem row99 (u : TypeId) (h : Ybaf.prog.typeName? 3 u = some "*errors.errorString") : u = 99 :=
  typeName_ptr_named (nm := "errors.errorString") (by rw [star]; kernel_rfl) (by kernel_rfl) (by decide) u (by rw [star]; exact h)
theorem cells101 : Ybaf.prog.cellsOf 101 = 1 := by kernel_rfl
theorem cells9 : Ybaf.prog.cellsOf 9 = 1 := by kernel_rfl

/-- From the head of the list to the sentinel's cells. -/
theorem sent_of_laid {n : String} {text : List UInt8} {r : List (String × DataW Unit)} {W : World} {g : Nat} (h : laidMet Ybaf.prog ((n, .iface "*errors.errorString" (.ptr (.agg [.lit (.string text)]))) :: r) W)
    (hg : Ybaf.prog.globalNamed n = some g) (ht : (Ybaf.prog.globals[g]?).map (·.type) = some 30) : ∃ a s, Sent W g a s := by
  obtain ⟨a, s, hv, hc, _, _⟩ := laid_sentinel h hg ht Ybaf.underlying30 row99 Ybaf.underlying99 Ybaf.underlying101 rfl rfl Ybaf.underlying9 cells101 cells9
  have hcg : W.cell? ⟨g, 0, none⟩ = some (.iface 99 (.pointer (some a))) := by simpa using World.var?_cell hg hv 0
  exact ⟨a, s, World.block_lt_of_cell? _ _ hcg, World.block_lt_of_cell? _ _ hc, hcg, hc⟩

theorem g0 : Ybaf.prog.globalNamed "example.com/tracewright/tracewright.ErrIndex" = some 0 := by kernel_rfl
theorem g1 : Ybaf.prog.globalNamed "example.com/tracewright/tracewright.ErrNilRef" = some 1 := by kernel_rfl
theorem g2 : Ybaf.prog.globalNamed "example.com/tracewright/tracewright.ErrBadRef" = some 2 := by kernel_rfl
theorem g3 : Ybaf.prog.globalNamed "example.com/tracewright/tracewright.ErrStaleRef" = some 3 := by kernel_rfl
theorem g4 : Ybaf.prog.globalNamed "example.com/tracewright/tracewright.ErrCorrupt" = some 4 := by kernel_rfl

theorem door4 (os : Os) (args : Array Value) : laidMetH Ybaf.prog Rows.lawS1031BValueRow.laid ((World.doorLaid Ybaf.prog 104 os).forCall (fun _ _ => 0) ⟨#[], args, []⟩).memory :=
  laidMetH_of_parts3 (fuel := 8) (laidMet_of_run' 8 (by kernel_rfl) (by kernel_rfl)) (by kernel_rfl) (by kernel_rfl)
theorem door1 (os : Os) (args : Array Value) : laidMetH Ybaf.prog Rows.lawS1031CSoundRow.laid ((World.doorLaid Ybaf.prog 104 os).forCall (fun _ _ => 0) ⟨#[], args, []⟩).memory :=
  laidMetH_of_parts3 (fuel := 8) (laidMet_of_run' 8 (by kernel_rfl) (by kernel_rfl)) (by kernel_rfl) (by kernel_rfl)

/-- The four sentinels that B's rows list. -/
theorem four_of_laid {W : World} (h : laidMetH Ybaf.prog Rows.lawS1031BValueRow.laid W) : (∃ a s, Sent W 0 a s) ∧ (∃ a s, Sent W 1 a s) ∧ (∃ a s, Sent W 2 a s) ∧ ∃ a s, Sent W 3 a s := by
  rw [MakeChecks.laidMetH_plain _ _ _ (by kernel_rfl)] at h
  have h' : laidMet Ybaf.prog Rows.lawS1031BValueRow.laid W := h
  exact ⟨sent_of_laid h'.tail.tail.tail g0 (by kernel_rfl), sent_of_laid h' g1 (by kernel_rfl), sent_of_laid h'.tail g2 (by kernel_rfl), sent_of_laid h'.tail.tail g3 (by kernel_rfl)⟩
/-- The one that C's rows list. -/
theorem one_of_laid {W : World} (h : laidMetH Ybaf.prog Rows.lawS1031CSoundRow.laid W) : ∃ a s, Sent W 4 a s := by
  rw [MakeChecks.laidMetH_plain _ _ _ (by kernel_rfl)] at h
  have h' : laidMet Ybaf.prog Rows.lawS1031CSoundRow.laid W := h
  exact sent_of_laid h' g4 (by kernel_rfl)

/-- WHAT THE WALK IS TOLD OF A SLICE OF INTEGERS THAT CAME IN. -/
def IsRow (k : IntKind) (w : World) (a : Option Addr) (len cap : Nat) (zs : List Int) : Prop :=
  (a = none ∧ len = 0 ∧ cap = 0 ∧ zs = []) ∨
  ∃ x, a = some x ∧ len ≤ cap ∧ cap ≤ maxLen ∧ zs.length = cap ∧ (∀ i, i < zs.length → w.cell? (x.add i) = some (.int k (zs.getD i 0))) ∧ ∀ n ∈ zs, (Lit.int k n).wf = true

end Go.Proofs.YbulkuieFmt
