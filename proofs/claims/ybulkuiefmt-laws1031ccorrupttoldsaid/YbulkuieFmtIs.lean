/-
  errors.Is by its contracts at this seat's dump, where the target is a sentinel of errors.New's make: the sentinel itself, and a *fmt.wrapError that wraps it. After the guide's SentryIs.lean, at this dump's numbers: 30: error · 99: *errors.errorString · 101: errors.errorString · 93: *fmt.wrapError · 81: reflectlite's rtype · 83, 86, 87: the three interfaces that errors.is asserts to · 5: the number of package-level variables · functions 9: errors.Is, 17: reflectlite.TypeOf, 63: (rtype).Comparable, 73: (*fmt.wrapError).Unwrap.
-/
import Derived.Test.YbulkuieFmtChecked
import Derived.WalkKit
import Derived.LaidEql
import Derived.Stop.Asserts
import Derived.RowKitTokens
namespace Go.Proofs.YbulkuieFmt
open Go.RowKit Go.Extern.Stop Go.Stop Go.Extern

theorem isTypeOf (v : Value) (w : World) : (callFunc 17 #[.iface 99 v]).run Ybaf.prog w = .ok (.value (.iface 81 (.agg #[.pointer (some ⟨5, 99, none⟩)]))) w := by kernel_rfl
theorem isComparable (w : World) : (callFunc 63 #[.agg #[.pointer (some ⟨5, 99, none⟩)]]).run Ybaf.prog w = .ok (.value (.bool true)) w := by kernel_rfl
theorem isMethodComparable (v : Value) (w : World) : (Go.method 245 81 v "Comparable").run Ybaf.prog w = .ok (63, v) w := by kernel_rfl
theorem isComp : (Ybaf.prog.info? 99).map (·.comparable) = some true := by kernel_rfl
theorem isSize : (Ybaf.prog.info? 101).map (·.size) = some 1 := by kernel_rfl
theorem noIsW (v : Value) (xT : TypeId) (w : World) : (Instr.typeAssert (.iface 93 v) xT 83 true).run Ybaf.prog w = .ok (.tuple #[.nilIface, .bool false]) w := run_typeAssert_lacksB Ybaf.underlying83 (by kernel_rfl) (by kernel_rfl) v xT w
theorem hasUnwrapW (v : Value) (xT : TypeId) (w : World) : (Instr.typeAssert (.iface 93 v) xT 86 true).run Ybaf.prog w = .ok (.tuple #[.iface 93 v, .bool true]) w := run_typeAssert_hasB Ybaf.underlying86 (by kernel_rfl) v xT w
theorem methodUnwrap (v : Value) (w : World) : (Go.method 245 93 v "Unwrap").run Ybaf.prog w = .ok (73, v) w := by kernel_rfl

set_option maxRecDepth 100000 in
/-- errors.Is(x, x), x a pointer to an errors.errorString. -/
theorem is_same (a : Addr) (w : World) :
    Calls Ybaf.prog 9 #[.iface 99 (.pointer (some a)), .iface 99 (.pointer (some a))] w fun e w' => e = .returned (.bool true) ∧ w' = w := by
  obtain ⟨i, hi, hcmp⟩ := Option.map_eq_some_iff.1 isComp
  obtain ⟨j, hj, hjs⟩ := Option.map_eq_some_iff.1 isSize
  have tT := isTypeOf
  have cT := isComparable
  have mR := isMethodComparable
  have heq := run_eql_iface_ptr_same (P := Ybaf.prog) w a Ybaf.underlying30 Ybaf.underlying99 hi hcmp hj
  go_enter Ybaf.func9, Ybaf.ntmps9
  go_wp2
  refine wp_loop_rounds 1 ?_
  rw [rounds_succ]
  go_wp2
  go_ret
  exact ⟨rfl, rfl⟩

set_option maxRecDepth 100000 in
/-- errors.Is(e, x), e a *fmt.wrapError that wraps x itself: one Unwrap, then equal. -/
theorem is_wrap_same (pb po : Nat) (b : Addr) (w : World) (h1 : w.cell? ⟨pb, po + 1, none⟩ = some (.iface 99 (.pointer (some b)))) :
    Calls Ybaf.prog 9 #[.iface 93 (.pointer (some ⟨pb, po, none⟩)), .iface 99 (.pointer (some b))] w fun e w' => e = .returned (.bool true) ∧ w' = w := by
  obtain ⟨i, hi, hcmp⟩ := Option.map_eq_some_iff.1 isComp
  obtain ⟨j, hj, hjs⟩ := Option.map_eq_some_iff.1 isSize
  have tT := isTypeOf
  have cT := isComparable
  have mR := isMethodComparable
  have nW := noIsW
  have uW := hasUnwrapW
  have mU := methodUnwrap
  have heq := run_eql_iface_ptr_same (P := Ybaf.prog) w b Ybaf.underlying30 Ybaf.underlying99 hi hcmp hj
  have hty := run_eql_iface_types (P := Ybaf.prog) 93 99 (.pointer (some ⟨pb, po, none⟩)) (.pointer (some b)) Ybaf.underlying30 (by decide) w
  go_enter Ybaf.func9, Ybaf.ntmps9
  go_wp2
  refine wp_loop_rounds 2 ?_
  rw [rounds_succ]
  go_wp2
  rw [rounds_succ]
  go_wp2
  go_ret
  exact ⟨rfl, rfl⟩
end Go.Proofs.YbulkuieFmt
