/-
  No cell of these rows narrows 'for every input' (looked for: loops, veiled, ifaces, maps, wideKeys, modest, calm, conditions, laid).
  DERIVED. THE GIVEN ROWS OF THIS SEAT. 2 by the template 'for every input the law returns true; each argument reads behind the call as it read before'; 0 by the template 'total and deterministic' (their statements: YbulkukwTotals.lean).
  GIVEN WITH THE SEED: the statements are not yours to turn. If you find one false, say at which input.
  Laid BY PROGRAM, IN A SANDBOX (cutbox-rows.mjs): the forced cells as the released guide's own fill.sh prints them over the translation dbe7843dae656fc0… (all of the seat's roots in one cut). By AI agents, Wed Nov 11 2026. No macro, syntax, notation, axiom, sorry.
-/
import Derived.Test.YbulkukwChecked
import GoSem.Claim
import GoSem.ClaimJoined
import GoSem.ClaimMapViews
import Derived.JoinedTies
import Derived.KernelRfl
namespace Go.Proofs.Ybulkukw
/- THE CELL 'sum', in the pinned program and in every row, IS THE sha256 OF THE DUMP (.gsa) THAT YbulkukwProg.lean LOADS. Nothing in Lean hashes anything: it is a label: what it is worth is what the hold of that sum in a sandbox is worth. -/
noncomputable def Yba.pinned : Pinned := { name := "ybulkukw", sum := "dbe7843dae656fc03e523e18c2fe02377459793361b6ef5bc81563b1e04dfaea", checked := Yba.checked }
namespace Rows
def none {H : Type} : Left H := { results := [], args := [] }

/-- 'joinwise.LawS1036CSources': WHATEVER THE INPUT: true; the input reads as it did. -/
def lawS1036CSourcesSpec : ChangeSpec := { name := "lawS1036CSources", fn := fun _ => fun
  | [d1, d2, d3] => { results := [.lit (.bool true)], args := [d1, d2, d3] }
  | _ => none }
def lawS1036CSourcesRow : OpenClaim := { program := "ybulkukw", sum := "dbe7843dae656fc03e523e18c2fe02377459793361b6ef5bc81563b1e04dfaea", func := "example.com/joinwise/joinwise.LawS1036CSources", spec := "lawS1036CSources", apart := false }
def LawS1036CSourcesSaid : Prop := lawS1036CSourcesRow.holds Yba.pinned (OpenSpec.ofChange lawS1036CSourcesSpec)

/-- ITS FALSE NEIGHBOUR: 'it returns false'. Refute it at one input. -/
def lawS1036CSourcesWrong : ChangeSpec := { name := "lawS1036CSources", fn := fun _ => fun
  | [d1, d2, d3] => { results := [.lit (.bool false)], args := [d1, d2, d3] }
  | _ => none }
def LawS1036CSourcesWrongFalsely : Prop := lawS1036CSourcesRow.holds Yba.pinned (OpenSpec.ofChange lawS1036CSourcesWrong)

/-- 'joinwise.LawS1036CInputKept': WHATEVER THE INPUT: true; the input reads as it did. -/
def lawS1036CInputKeptSpec : ChangeSpec := { name := "lawS1036CInputKept", fn := fun _ => fun
  | [d1, d2, d3] => { results := [.lit (.bool true)], args := [d1, d2, d3] }
  | _ => none }
def lawS1036CInputKeptRow : OpenClaim := { program := "ybulkukw", sum := "dbe7843dae656fc03e523e18c2fe02377459793361b6ef5bc81563b1e04dfaea", func := "example.com/joinwise/joinwise.LawS1036CInputKept", spec := "lawS1036CInputKept", apart := false }
def LawS1036CInputKeptSaid : Prop := lawS1036CInputKeptRow.holds Yba.pinned (OpenSpec.ofChange lawS1036CInputKeptSpec)

/-- ITS FALSE NEIGHBOUR: 'it returns false'. Refute it at one input. -/
def lawS1036CInputKeptWrong : ChangeSpec := { name := "lawS1036CInputKept", fn := fun _ => fun
  | [d1, d2, d3] => { results := [.lit (.bool false)], args := [d1, d2, d3] }
  | _ => none }
def LawS1036CInputKeptWrongFalsely : Prop := lawS1036CInputKeptRow.holds Yba.pinned (OpenSpec.ofChange lawS1036CInputKeptWrong)

end Rows
end Go.Proofs.Ybulkukw
