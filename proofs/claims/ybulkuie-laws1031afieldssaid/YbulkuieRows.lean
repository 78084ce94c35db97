/-
  No cell of these rows narrows 'for every input' (looked for: loops, veiled, ifaces, maps, wideKeys, modest, calm, conditions, laid).
  DERIVED. THE GIVEN ROWS OF THIS SEAT. 2 by the template 'for every input the law returns true; each argument reads behind the call as it read before'; 0 by the template 'total and deterministic' (their statements: YbulkuieTotals.lean).
  GIVEN WITH THE SEED: the statements are not yours to turn. If you find one false, say at which input.
  Laid BY PROGRAM, IN A SANDBOX (cutbox-rows.mjs): the forced cells as the released guide's own fill.sh prints them over the translation 22ab756339c13c21… (all of the seat's roots in one cut). By AI agents, Wed Nov 11 2026. No macro, syntax, notation, axiom, sorry.
-/
import Derived.Test.YbulkuieChecked
import GoSem.Claim
import GoSem.ClaimJoined
import GoSem.ClaimMapViews
import Derived.JoinedTies
import Derived.KernelRfl
namespace Go.Proofs.Ybulkuie
/- THE CELL 'sum', in the pinned program and in every row, IS THE sha256 OF THE DUMP (.gsa) THAT YbulkuieProg.lean LOADS. Nothing in Lean hashes anything: it is a label: what it is worth is what the hold of that sum in a sandbox is worth. -/
noncomputable def Yba.pinned : Pinned := { name := "ybulkuie", sum := "22ab756339c13c21342103d1798861385cdc9956ab75b2c5a33ce778caf662ca", checked := Yba.checked }
namespace Rows
def none {H : Type} : Left H := { results := [], args := [] }

/-- 'tracewright.LawS1031AExact': WHATEVER THE INPUT: true; the input reads as it did. -/
def lawS1031AExactSpec : ChangeSpec := { name := "lawS1031AExact", fn := fun _ => fun
  | [d1, d2] => { results := [.lit (.bool true)], args := [d1, d2] }
  | _ => none }
def lawS1031AExactRow : OpenClaim := { program := "ybulkuie", sum := "22ab756339c13c21342103d1798861385cdc9956ab75b2c5a33ce778caf662ca", func := "example.com/tracewright/tracewright.LawS1031AExact", spec := "lawS1031AExact", apart := false }
def LawS1031AExactSaid : Prop := lawS1031AExactRow.holds Yba.pinned (OpenSpec.ofChange lawS1031AExactSpec)

/-- ITS FALSE NEIGHBOUR: 'it returns false'. Refute it at one input. -/
def lawS1031AExactWrong : ChangeSpec := { name := "lawS1031AExact", fn := fun _ => fun
  | [d1, d2] => { results := [.lit (.bool false)], args := [d1, d2] }
  | _ => none }
def LawS1031AExactWrongFalsely : Prop := lawS1031AExactRow.holds Yba.pinned (OpenSpec.ofChange lawS1031AExactWrong)

/-- 'tracewright.LawS1031AFields': WHATEVER THE INPUT: true; the input reads as it did. -/
def lawS1031AFieldsSpec : ChangeSpec := { name := "lawS1031AFields", fn := fun _ => fun
  | [d1, d2, d3, d4] => { results := [.lit (.bool true)], args := [d1, d2, d3, d4] }
  | _ => none }
def lawS1031AFieldsRow : OpenClaim := { program := "ybulkuie", sum := "22ab756339c13c21342103d1798861385cdc9956ab75b2c5a33ce778caf662ca", func := "example.com/tracewright/tracewright.LawS1031AFields", spec := "lawS1031AFields", apart := false }
def LawS1031AFieldsSaid : Prop := lawS1031AFieldsRow.holds Yba.pinned (OpenSpec.ofChange lawS1031AFieldsSpec)

/-- ITS FALSE NEIGHBOUR: 'it returns false'. Refute it at one input. -/
def lawS1031AFieldsWrong : ChangeSpec := { name := "lawS1031AFields", fn := fun _ => fun
  | [d1, d2, d3, d4] => { results := [.lit (.bool false)], args := [d1, d2, d3, d4] }
  | _ => none }
def LawS1031AFieldsWrongFalsely : Prop := lawS1031AFieldsRow.holds Yba.pinned (OpenSpec.ofChange lawS1031AFieldsWrong)

end Rows
end Go.Proofs.Ybulkuie
