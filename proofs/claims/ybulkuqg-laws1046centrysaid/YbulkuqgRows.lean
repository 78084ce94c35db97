/-
  No cell of these rows narrows 'for every input' (looked for: loops, veiled, ifaces, maps, wideKeys, modest, calm, conditions, laid).
  DERIVED. THE GIVEN ROWS OF THIS SEAT. 2 by the template 'for every input the law returns true; each argument reads behind the call as it read before'; 0 by the template 'total and deterministic' (their statements: YbulkuqgTotals.lean).
  GIVEN WITH THE SEED: the statements are not yours to turn. If you find one false, say at which input.
  Laid BY PROGRAM, IN A SANDBOX (cutbox-rows.mjs): the forced cells as the released guide's own fill.sh prints them over the translation d19413372b71b544… (all of the seat's roots in one cut). By AI agents, Wed Nov 11 2026. No macro, syntax, notation, axiom, sorry.
-/
import Derived.Test.YbulkuqgChecked
import GoSem.Claim
import GoSem.ClaimJoined
import GoSem.ClaimMapViews
import Derived.JoinedTies
import Derived.KernelRfl
namespace Go.Proofs.Ybulkuqg
/- THE CELL 'sum', in the pinned program and in every row, IS THE sha256 OF THE DUMP (.gsa) THAT YbulkuqgProg.lean LOADS. Nothing in Lean hashes anything: it is a label: what it is worth is what the hold of that sum in a sandbox is worth. -/
noncomputable def Yba.pinned : Pinned := { name := "ybulkuqg", sum := "d19413372b71b54433a537c277dbd3c076f1f0687c0e7a636281749974d62016", checked := Yba.checked }
namespace Rows
def none {H : Type} : Left H := { results := [], args := [] }

/-- 'inflate.LawS1046CEntry': WHATEVER THE INPUT: true; the input reads as it did. -/
def lawS1046CEntrySpec : ChangeSpec := { name := "lawS1046CEntry", fn := fun _ => fun
  | [d1, d2, d3, d4, d5, d6] => { results := [.lit (.bool true)], args := [d1, d2, d3, d4, d5, d6] }
  | _ => none }
def lawS1046CEntryRow : OpenClaim := { program := "ybulkuqg", sum := "d19413372b71b54433a537c277dbd3c076f1f0687c0e7a636281749974d62016", func := "example.com/satchel/satchel/internal/inflate.LawS1046CEntry", spec := "lawS1046CEntry", apart := false }
def LawS1046CEntrySaid : Prop := lawS1046CEntryRow.holds Yba.pinned (OpenSpec.ofChange lawS1046CEntrySpec)

/-- ITS FALSE NEIGHBOUR: 'it returns false'. Refute it at one input. -/
def lawS1046CEntryWrong : ChangeSpec := { name := "lawS1046CEntry", fn := fun _ => fun
  | [d1, d2, d3, d4, d5, d6] => { results := [.lit (.bool false)], args := [d1, d2, d3, d4, d5, d6] }
  | _ => none }
def LawS1046CEntryWrongFalsely : Prop := lawS1046CEntryRow.holds Yba.pinned (OpenSpec.ofChange lawS1046CEntryWrong)

/-- 'inflate.LawS1046CIgnored': WHATEVER THE INPUT: true; the input reads as it did. -/
def lawS1046CIgnoredSpec : ChangeSpec := { name := "lawS1046CIgnored", fn := fun _ => fun
  | [d1, d2, d3, d4, d5, d6, d7] => { results := [.lit (.bool true)], args := [d1, d2, d3, d4, d5, d6, d7] }
  | _ => none }
def lawS1046CIgnoredRow : OpenClaim := { program := "ybulkuqg", sum := "d19413372b71b54433a537c277dbd3c076f1f0687c0e7a636281749974d62016", func := "example.com/satchel/satchel/internal/inflate.LawS1046CIgnored", spec := "lawS1046CIgnored", apart := false }
def LawS1046CIgnoredSaid : Prop := lawS1046CIgnoredRow.holds Yba.pinned (OpenSpec.ofChange lawS1046CIgnoredSpec)

/-- ITS FALSE NEIGHBOUR: 'it returns false'. Refute it at one input. -/
def lawS1046CIgnoredWrong : ChangeSpec := { name := "lawS1046CIgnored", fn := fun _ => fun
  | [d1, d2, d3, d4, d5, d6, d7] => { results := [.lit (.bool false)], args := [d1, d2, d3, d4, d5, d6, d7] }
  | _ => none }
def LawS1046CIgnoredWrongFalsely : Prop := lawS1046CIgnoredRow.holds Yba.pinned (OpenSpec.ofChange lawS1046CIgnoredWrong)

end Rows
end Go.Proofs.Ybulkuqg
