/-
  The small functions of the seat b1031aF that only compute or read: has, headerRefs, headerWords.
-/
import Derived.Test.YbulkuieFmtChecked
import Derived.Test.YbulkuieFmtPlain
import Derived.WalkKit
import Derived.WalkSpells
namespace Go.Proofs.YbulkuieFmt
open Go.RowKit

theorem has_any (sb L cap k : Nat) (x : Int) (w : World) (hL : k / 64 < L) (hL' : L ≤ 140737488355328) (hk : k < 9223372036854775807) (hc : w.cell? ⟨sb, k / 64, none⟩ = some (.int .u64 x)) (hx0 : 0 ≤ x) (hx : x < 18446744073709551616) :
    Calls Ybaf.prog 31 #[.slice (some ⟨sb, 0, none⟩) L cap, .int .i64 k] w fun e w' => e = .returned (.bool (x.toNat.testBit (k % 64))) ∧ w' = w := by
  go_enter Ybaf.func31, Ybaf.ntmps31
  go_wp2
  go_ret
  exact ⟨by simp only [← Plain.bit_test x _ hx0 hx]; rfl, rfl⟩

end Go.Proofs.YbulkuieFmt
