/-
  DERIVED. GIVEN WITH THE SEED: THE PROGRAM's TIES (one call each: nine closed facts by the kernel) AND EACH ROW's TIE, after the 31st guide's Derived/Test/Toyas{Tie, Card}.lean. No idea stands in it: it is a product of the set-up. Laid BY PROGRAM, IN A SANDBOX (cutbox-door.mjs). By AI agents, Wed Nov 11 2026. No macro, syntax, notation, axiom, sorry.
-/
import Derived.Test.YbulkuieFmtRows
import Derived.LaidByTextLater
import Derived.SevenTiedAt
import Derived.LaidSub
import Derived.LaidOnce
namespace Go.Proofs.YbulkuieFmt
open Go
set_option maxRecDepth 100000
theorem seatTie1 : Ybaf.prog.laidByTextLater [("example.com/tracewright/tracewright.ErrNilRef", Rows.laid_example_com_tracewright_tracewright_ErrNilRef), ("example.com/tracewright/tracewright.ErrBadRef", Rows.laid_example_com_tracewright_tracewright_ErrBadRef), ("example.com/tracewright/tracewright.ErrStaleRef", Rows.laid_example_com_tracewright_tracewright_ErrStaleRef), ("example.com/tracewright/tracewright.ErrIndex", Rows.laid_example_com_tracewright_tracewright_ErrIndex), ("example.com/tracewright/tracewright.ErrCorrupt", Rows.laid_example_com_tracewright_tracewright_ErrCorrupt)] [.sentinel, .sentinel, .sentinel, .sentinel, .sentinel] true :=
  Program.laidByTextLater_by_one 104 8 2 (by kernel_rfl) (by kernel_rfl) (by kernel_rfl) (by kernel_rfl) (by kernel_rfl) (by kernel_rfl) (fun _ _ => by kernel_rfl)
theorem noOwnUnsafe : Ybaf.pinned.checked.prog.headLifts.contains "ownunsafe" = false := by kernel_rfl
theorem tie : Ybaf.prog.laidByTextLater [("example.com/tracewright/tracewright.ErrNilRef", Rows.laid_example_com_tracewright_tracewright_ErrNilRef), ("example.com/tracewright/tracewright.ErrBadRef", Rows.laid_example_com_tracewright_tracewright_ErrBadRef), ("example.com/tracewright/tracewright.ErrStaleRef", Rows.laid_example_com_tracewright_tracewright_ErrStaleRef), ("example.com/tracewright/tracewright.ErrIndex", Rows.laid_example_com_tracewright_tracewright_ErrIndex)] [.sentinel, .sentinel, .sentinel, .sentinel] true :=
  Program.laidByTextLater.sub seatTie1 ["example.com/tracewright/tracewright.ErrNilRef", "example.com/tracewright/tracewright.ErrBadRef", "example.com/tracewright/tracewright.ErrStaleRef", "example.com/tracewright/tracewright.ErrIndex"] (by kernel_rfl) (by kernel_rfl)
theorem lawS1031BValue_row_tie : Rows.lawS1031BValueRow.laidByTextAt .later Ybaf.pinned [.sentinel, .sentinel, .sentinel, .sentinel] true :=
  OpenClaim.laidByTextAt_later rfl rfl tie noOwnUnsafe
theorem lawS1031BRefusal_row_tie : Rows.lawS1031BRefusalRow.laidByTextAt .later Ybaf.pinned [.sentinel, .sentinel, .sentinel, .sentinel] true :=
  OpenClaim.laidByTextAt_later rfl rfl tie noOwnUnsafe
theorem tie2 : Ybaf.prog.laidByTextLater [("example.com/tracewright/tracewright.ErrCorrupt", Rows.laid_example_com_tracewright_tracewright_ErrCorrupt)] [.sentinel] true :=
  Program.laidByTextLater.sub seatTie1 ["example.com/tracewright/tracewright.ErrCorrupt"] (by kernel_rfl) (by kernel_rfl)
theorem lawS1031CSound_row_tie : Rows.lawS1031CSoundRow.laidByTextAt .later Ybaf.pinned [.sentinel] true :=
  OpenClaim.laidByTextAt_later rfl rfl tie2 noOwnUnsafe
theorem lawS1031CCorrupt_row_tie : Rows.lawS1031CCorruptRow.laidByTextAt .later Ybaf.pinned [.sentinel] true :=
  OpenClaim.laidByTextAt_later rfl rfl tie2 noOwnUnsafe
end Go.Proofs.YbulkuieFmt
