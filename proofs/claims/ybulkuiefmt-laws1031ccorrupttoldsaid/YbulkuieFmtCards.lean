/-
  DERIVED. GIVEN WITH THE SEED: THE CARDS: each row of YbulkuieFmtRows.lean that lists a variable, with what it lists TIED to the program's text (the seventh form; the later family's looks); each row that meets fmt, with fmt's text TOLD by the authors' own Lean function (tested against real Go, not proved from fmt's source: count such statements apart). THE CARD IS WHAT COUNTS. Prove the row's statement (the work); the ties are given (YbulkuieFmtTie.lean); close each card by the builder's one call (the guide's Derived/Test/ToyasCard.lean, 'card_holds'). Laid BY PROGRAM, IN A SANDBOX (cutbox-door.mjs). By AI agents, Wed Nov 11 2026. No macro, syntax, notation, axiom, sorry.
-/
import Derived.Test.YbulkuieFmtRows
import GoSem.ClaimSeven
namespace Go.Proofs.YbulkuieFmt
namespace Rows

/-- THE TOLD AND TIED CARD OF 'tracewright.LawS1031BValue'. -/
def lawS1031BValueCard : Claim7 := { stood := { row := lawS1031BValueRow, standIns := [], harness := (true, "7d77725401c292313b4f53e44f2c9b0821844dccdd8fcd23575c15efdece19a2"), looks := true }, told := true, laidByText := true, laidKinds := [.sentinel, .sentinel, .sentinel, .sentinel], laidTests := true, laidLooks := .later, goes := false }
def LawS1031BValueToldSaid : Prop := Claim7.holds Ybaf.pinned (.plain (OpenSpec.ofChange lawS1031BValueSpec)) lawS1031BValueCard
/-- ITS FALSE NEIGHBOUR. Refute it at one input. -/
def LawS1031BValueToldWrongFalsely : Prop := Claim7.holds Ybaf.pinned (.plain (OpenSpec.ofChange lawS1031BValueWrong)) lawS1031BValueCard

/-- THE TOLD AND TIED CARD OF 'tracewright.LawS1031BRefusal'. -/
def lawS1031BRefusalCard : Claim7 := { stood := { row := lawS1031BRefusalRow, standIns := [], harness := (true, "7d77725401c292313b4f53e44f2c9b0821844dccdd8fcd23575c15efdece19a2"), looks := true }, told := true, laidByText := true, laidKinds := [.sentinel, .sentinel, .sentinel, .sentinel], laidTests := true, laidLooks := .later, goes := false }
def LawS1031BRefusalToldSaid : Prop := Claim7.holds Ybaf.pinned (.plain (OpenSpec.ofChange lawS1031BRefusalSpec)) lawS1031BRefusalCard
/-- ITS FALSE NEIGHBOUR. Refute it at one input. -/
def LawS1031BRefusalToldWrongFalsely : Prop := Claim7.holds Ybaf.pinned (.plain (OpenSpec.ofChange lawS1031BRefusalWrong)) lawS1031BRefusalCard

/-- THE TOLD AND TIED CARD OF 'tracewright.LawS1031CSound'. -/
def lawS1031CSoundCard : Claim7 := { stood := { row := lawS1031CSoundRow, standIns := [], harness := (true, "7d77725401c292313b4f53e44f2c9b0821844dccdd8fcd23575c15efdece19a2"), looks := true }, told := true, laidByText := true, laidKinds := [.sentinel], laidTests := true, laidLooks := .later, goes := false }
def LawS1031CSoundToldSaid : Prop := Claim7.holds Ybaf.pinned (.plain (OpenSpec.ofChange lawS1031CSoundSpec)) lawS1031CSoundCard
/-- ITS FALSE NEIGHBOUR. Refute it at one input. -/
def LawS1031CSoundToldWrongFalsely : Prop := Claim7.holds Ybaf.pinned (.plain (OpenSpec.ofChange lawS1031CSoundWrong)) lawS1031CSoundCard

/-- THE TOLD AND TIED CARD OF 'tracewright.LawS1031CCorrupt'. -/
def lawS1031CCorruptCard : Claim7 := { stood := { row := lawS1031CCorruptRow, standIns := [], harness := (true, "7d77725401c292313b4f53e44f2c9b0821844dccdd8fcd23575c15efdece19a2"), looks := true }, told := true, laidByText := true, laidKinds := [.sentinel], laidTests := true, laidLooks := .later, goes := false }
def LawS1031CCorruptToldSaid : Prop := Claim7.holds Ybaf.pinned (.plain (OpenSpec.ofChange lawS1031CCorruptSpec)) lawS1031CCorruptCard
/-- ITS FALSE NEIGHBOUR. Refute it at one input. -/
def LawS1031CCorruptToldWrongFalsely : Prop := Claim7.holds Ybaf.pinned (.plain (OpenSpec.ofChange lawS1031CCorruptWrong)) lawS1031CCorruptCard
end Rows
end Go.Proofs.YbulkuieFmt
