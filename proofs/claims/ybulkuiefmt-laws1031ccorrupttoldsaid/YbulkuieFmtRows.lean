/-
  NARROWER THAN 'FOR EVERY INPUT', by the rows' own cells (each row's printed sentence says how): LawS1031BValue: ifaces, laid · LawS1031BRefusal: ifaces, laid · LawS1031CSound: ifaces, laid · LawS1031CCorrupt: ifaces, laid.
  DERIVED. THE GIVEN ROWS OF THIS SEAT. 4 by the template 'for every input the law returns true; each argument reads behind the call as it read before'; 0 by the template 'total and deterministic' (their statements: YbulkuieFmtTotals.lean).
  GIVEN WITH THE SEED: the statements are not yours to turn. If you find one false, say at which input.
  Laid BY PROGRAM, IN A SANDBOX (cutbox-rows.mjs): the forced cells as the released guide's own fill.sh prints them over the translation b89b26d6f097150c… (all of the seat's roots in one cut). By AI agents, Wed Nov 11 2026. No macro, syntax, notation, axiom, sorry.
-/
import Derived.Test.YbulkuieFmtChecked
import GoSem.Claim
import GoSem.ClaimJoined
import GoSem.ClaimMapViews
import Derived.JoinedTies
import Derived.KernelRfl
namespace Go.Proofs.YbulkuieFmt
/- THE CELL 'sum', in the pinned program and in every row, IS THE sha256 OF THE DUMP (.gsa) THAT YbulkuieFmtProg.lean LOADS. Nothing in Lean hashes anything: it is a label: what it is worth is what the hold of that sum in a sandbox is worth. -/
noncomputable def Ybaf.pinned : Pinned := { name := "ybulkuiefmt", sum := "b89b26d6f097150c676e293adbb18beb36955605bed63dbd22f698b544354973", checked := Ybaf.checked }
namespace Rows
def none {H : Type} : Left H := { results := [], args := [] }

/- WHAT THE LISTED PACKAGE-LEVEL VARIABLES READ AS WHEN THE CALL BEGINS. Each datum BY PROGRAM (the guide's laid-datum.mjs) off the statement by which the dump's own 'gosem.cut.vars' lays the variable. In a bare row this is a premise. The card (YbulkuieFmtCards.lean) ties it to the program's text. -/
def laid_example_com_tracewright_tracewright_ErrNilRef {H : Type} : DataW H := .iface "*errors.errorString" (.ptr (.agg [.lit (.string [116, 114, 97, 99, 101, 119, 114, 105, 103, 104, 116, 58, 32, 110, 105, 108, 32, 114, 101, 102, 101, 114, 101, 110, 99, 101])]))
def laid_example_com_tracewright_tracewright_ErrBadRef {H : Type} : DataW H := .iface "*errors.errorString" (.ptr (.agg [.lit (.string [116, 114, 97, 99, 101, 119, 114, 105, 103, 104, 116, 58, 32, 105, 110, 118, 97, 108, 105, 100, 32, 114, 101, 102, 101, 114, 101, 110, 99, 101])]))
def laid_example_com_tracewright_tracewright_ErrStaleRef {H : Type} : DataW H := .iface "*errors.errorString" (.ptr (.agg [.lit (.string [116, 114, 97, 99, 101, 119, 114, 105, 103, 104, 116, 58, 32, 115, 116, 97, 108, 101, 32, 114, 101, 102, 101, 114, 101, 110, 99, 101])]))
def laid_example_com_tracewright_tracewright_ErrIndex {H : Type} : DataW H := .iface "*errors.errorString" (.ptr (.agg [.lit (.string [116, 114, 97, 99, 101, 119, 114, 105, 103, 104, 116, 58, 32, 105, 110, 100, 101, 120, 32, 111, 117, 116, 32, 111, 102, 32, 114, 97, 110, 103, 101])]))
def laid_example_com_tracewright_tracewright_ErrCorrupt {H : Type} : DataW H := .iface "*errors.errorString" (.ptr (.agg [.lit (.string [116, 114, 97, 99, 101, 119, 114, 105, 103, 104, 116, 58, 32, 104, 101, 97, 112, 32, 105, 115, 32, 99, 111, 114, 114, 117, 112, 116])]))

/-- 'tracewright.LawS1031BValue': WHATEVER THE INPUT: true; the input reads as it did. -/
def lawS1031BValueSpec : ChangeSpec := { name := "lawS1031BValue", vars := ["example.com/tracewright/tracewright.ErrIndex", "example.com/tracewright/tracewright.ErrNilRef", "example.com/tracewright/tracewright.ErrBadRef", "example.com/tracewright/tracewright.ErrStaleRef"], fn := fun _ => fun
  | [d1, d2, d3, g1, g2, g3, g4] => { results := [.lit (.bool true)], args := [d1, d2, d3], vars := [g1, g2, g3, g4] }
  | _ => none }
def lawS1031BValueRow : OpenClaim := { program := "ybulkuiefmt", sum := "b89b26d6f097150c676e293adbb18beb36955605bed63dbd22f698b544354973", func := "example.com/tracewright/tracewright.LawS1031BValue", spec := "lawS1031BValue", stops := ["fmt.errorf"], inPlace := ["fmt.errorf", "internal/reflectlite.TypeOf"], unfollowed := true, recurses := true, named := ["example.com/tracewright/tracewright.ErrIndex", "example.com/tracewright/tracewright.ErrNilRef", "example.com/tracewright/tracewright.ErrBadRef", "example.com/tracewright/tracewright.ErrStaleRef"], ifaces := true, apart := false, laid := [("example.com/tracewright/tracewright.ErrNilRef", laid_example_com_tracewright_tracewright_ErrNilRef), ("example.com/tracewright/tracewright.ErrBadRef", laid_example_com_tracewright_tracewright_ErrBadRef), ("example.com/tracewright/tracewright.ErrStaleRef", laid_example_com_tracewright_tracewright_ErrStaleRef), ("example.com/tracewright/tracewright.ErrIndex", laid_example_com_tracewright_tracewright_ErrIndex)] }
/-- NO THEOREM (fmt's text is open here; it may be false): for the released tool's asking of the row's closed facts alone. THE STATEMENT IS 'LawS1031BValueToldSaid' (YbulkuieFmtCards.lean). -/
def LawS1031BValueFormAsk : Prop := lawS1031BValueRow.holds Ybaf.pinned (OpenSpec.ofChange lawS1031BValueSpec)

/-- ITS FALSE NEIGHBOUR: 'it returns false'. Refute it at one input. -/
def lawS1031BValueWrong : ChangeSpec := { name := "lawS1031BValue", vars := ["example.com/tracewright/tracewright.ErrIndex", "example.com/tracewright/tracewright.ErrNilRef", "example.com/tracewright/tracewright.ErrBadRef", "example.com/tracewright/tracewright.ErrStaleRef"], fn := fun _ => fun
  | [d1, d2, d3, g1, g2, g3, g4] => { results := [.lit (.bool false)], args := [d1, d2, d3], vars := [g1, g2, g3, g4] }
  | _ => none }
def LawS1031BValueWrongFormAsk : Prop := lawS1031BValueRow.holds Ybaf.pinned (OpenSpec.ofChange lawS1031BValueWrong)

/-- 'tracewright.LawS1031BRefusal': WHATEVER THE INPUT: true; the input reads as it did. -/
def lawS1031BRefusalSpec : ChangeSpec := { name := "lawS1031BRefusal", vars := ["example.com/tracewright/tracewright.ErrNilRef", "example.com/tracewright/tracewright.ErrIndex", "example.com/tracewright/tracewright.ErrBadRef", "example.com/tracewright/tracewright.ErrStaleRef"], fn := fun _ => fun
  | [d1, d2, d3, d4, d5, g1, g2, g3, g4] => { results := [.lit (.bool true)], args := [d1, d2, d3, d4, d5], vars := [g1, g2, g3, g4] }
  | _ => none }
def lawS1031BRefusalRow : OpenClaim := { program := "ybulkuiefmt", sum := "b89b26d6f097150c676e293adbb18beb36955605bed63dbd22f698b544354973", func := "example.com/tracewright/tracewright.LawS1031BRefusal", spec := "lawS1031BRefusal", stops := ["fmt.errorf"], inPlace := ["fmt.errorf", "internal/reflectlite.TypeOf"], unfollowed := true, recurses := true, named := ["example.com/tracewright/tracewright.ErrNilRef", "example.com/tracewright/tracewright.ErrIndex", "example.com/tracewright/tracewright.ErrBadRef", "example.com/tracewright/tracewright.ErrStaleRef"], ifaces := true, apart := false, laid := [("example.com/tracewright/tracewright.ErrNilRef", laid_example_com_tracewright_tracewright_ErrNilRef), ("example.com/tracewright/tracewright.ErrBadRef", laid_example_com_tracewright_tracewright_ErrBadRef), ("example.com/tracewright/tracewright.ErrStaleRef", laid_example_com_tracewright_tracewright_ErrStaleRef), ("example.com/tracewright/tracewright.ErrIndex", laid_example_com_tracewright_tracewright_ErrIndex)] }
/-- NO THEOREM (fmt's text is open here; it may be false): for the released tool's asking of the row's closed facts alone. THE STATEMENT IS 'LawS1031BRefusalToldSaid' (YbulkuieFmtCards.lean). -/
def LawS1031BRefusalFormAsk : Prop := lawS1031BRefusalRow.holds Ybaf.pinned (OpenSpec.ofChange lawS1031BRefusalSpec)

/-- ITS FALSE NEIGHBOUR: 'it returns false'. Refute it at one input. -/
def lawS1031BRefusalWrong : ChangeSpec := { name := "lawS1031BRefusal", vars := ["example.com/tracewright/tracewright.ErrNilRef", "example.com/tracewright/tracewright.ErrIndex", "example.com/tracewright/tracewright.ErrBadRef", "example.com/tracewright/tracewright.ErrStaleRef"], fn := fun _ => fun
  | [d1, d2, d3, d4, d5, g1, g2, g3, g4] => { results := [.lit (.bool false)], args := [d1, d2, d3, d4, d5], vars := [g1, g2, g3, g4] }
  | _ => none }
def LawS1031BRefusalWrongFormAsk : Prop := lawS1031BRefusalRow.holds Ybaf.pinned (OpenSpec.ofChange lawS1031BRefusalWrong)

/-- 'tracewright.LawS1031CSound': WHATEVER THE INPUT: true; the input reads as it did. -/
def lawS1031CSoundSpec : ChangeSpec := { name := "lawS1031CSound", vars := ["example.com/tracewright/tracewright.ErrCorrupt"], fn := fun _ => fun
  | [d1, d2, g1] => { results := [.lit (.bool true)], args := [d1, d2], vars := [g1] }
  | _ => none }
def lawS1031CSoundRow : OpenClaim := { program := "ybulkuiefmt", sum := "b89b26d6f097150c676e293adbb18beb36955605bed63dbd22f698b544354973", func := "example.com/tracewright/tracewright.LawS1031CSound", spec := "lawS1031CSound", stops := ["fmt.errorf"], inPlace := ["fmt.errorf"], unfollowed := true, recurses := true, named := ["example.com/tracewright/tracewright.ErrCorrupt"], ifaces := true, apart := false, laid := [("example.com/tracewright/tracewright.ErrCorrupt", laid_example_com_tracewright_tracewright_ErrCorrupt)] }
/-- NO THEOREM (fmt's text is open here; it may be false): for the released tool's asking of the row's closed facts alone. THE STATEMENT IS 'LawS1031CSoundToldSaid' (YbulkuieFmtCards.lean). -/
def LawS1031CSoundFormAsk : Prop := lawS1031CSoundRow.holds Ybaf.pinned (OpenSpec.ofChange lawS1031CSoundSpec)

/-- ITS FALSE NEIGHBOUR: 'it returns false'. Refute it at one input. -/
def lawS1031CSoundWrong : ChangeSpec := { name := "lawS1031CSound", vars := ["example.com/tracewright/tracewright.ErrCorrupt"], fn := fun _ => fun
  | [d1, d2, g1] => { results := [.lit (.bool false)], args := [d1, d2], vars := [g1] }
  | _ => none }
def LawS1031CSoundWrongFormAsk : Prop := lawS1031CSoundRow.holds Ybaf.pinned (OpenSpec.ofChange lawS1031CSoundWrong)

/-- 'tracewright.LawS1031CCorrupt': WHATEVER THE INPUT: true; the input reads as it did. -/
def lawS1031CCorruptSpec : ChangeSpec := { name := "lawS1031CCorrupt", vars := ["example.com/tracewright/tracewright.ErrCorrupt"], fn := fun _ => fun
  | [d1, d2, d3, g1] => { results := [.lit (.bool true)], args := [d1, d2, d3], vars := [g1] }
  | _ => none }
def lawS1031CCorruptRow : OpenClaim := { program := "ybulkuiefmt", sum := "b89b26d6f097150c676e293adbb18beb36955605bed63dbd22f698b544354973", func := "example.com/tracewright/tracewright.LawS1031CCorrupt", spec := "lawS1031CCorrupt", stops := ["fmt.errorf"], inPlace := ["fmt.errorf", "internal/reflectlite.TypeOf"], unfollowed := true, recurses := true, named := ["example.com/tracewright/tracewright.ErrCorrupt"], ifaces := true, apart := false, laid := [("example.com/tracewright/tracewright.ErrCorrupt", laid_example_com_tracewright_tracewright_ErrCorrupt)] }
/-- NO THEOREM (fmt's text is open here; it may be false): for the released tool's asking of the row's closed facts alone. THE STATEMENT IS 'LawS1031CCorruptToldSaid' (YbulkuieFmtCards.lean). -/
def LawS1031CCorruptFormAsk : Prop := lawS1031CCorruptRow.holds Ybaf.pinned (OpenSpec.ofChange lawS1031CCorruptSpec)

/-- ITS FALSE NEIGHBOUR: 'it returns false'. Refute it at one input. -/
def lawS1031CCorruptWrong : ChangeSpec := { name := "lawS1031CCorrupt", vars := ["example.com/tracewright/tracewright.ErrCorrupt"], fn := fun _ => fun
  | [d1, d2, d3, g1] => { results := [.lit (.bool false)], args := [d1, d2, d3], vars := [g1] }
  | _ => none }
def LawS1031CCorruptWrongFormAsk : Prop := lawS1031CCorruptRow.holds Ybaf.pinned (OpenSpec.ofChange lawS1031CCorruptWrong)

end Rows
end Go.Proofs.YbulkuieFmt
