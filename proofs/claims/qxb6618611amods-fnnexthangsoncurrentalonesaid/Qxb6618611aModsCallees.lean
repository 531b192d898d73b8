/-
  CONTRACTS of the callees: 'current' and 'next' of the roles (and the exported names that pass them on): they hang on the low two bits alone.
-/
import Derived.Test.Qxb6618611aModsRows
import Derived.Test.Qxb6618611aModsBits
import Derived.WalkKit
import Derived.ProofKit
import Derived.OpenShut
namespace Go.Proofs.Qxb6618611aMods
open Go.ChangeShapes Go.WideShapes Go.ChangeAt Go.RowKit

/-- 'ZZrateRolesCurrent' (and 'current' in it). -/
theorem cur_any (E c : Int) (hb : bits .and .u64 E 3 = c) (h0 : 0 ≤ c) (h3 : c ≤ 3) (w : World) :
    Calls Trym.prog 7 #[.int .u64 E] w fun e w' => e = .returned (.int .i64 c) ∧ w' = w := by
  go_enter Trym.func7, Trym.ntmps7
  go_wp2
  go_ret
  exact ⟨rfl, rfl⟩

/-- 'ZZrateRolesNext' (and 'next', 'current' in it). -/
theorem next_any (E c : Int) (hb : bits .and .u64 E 3 = c) (h0 : 0 ≤ c) (h3 : c ≤ 3) (w : World) :
    Calls Trym.prog 6 #[.int .u64 E] w fun e w' => e = .returned (.int .i64 ((c + 1) % 3)) ∧ w' = w := by
  go_enter Trym.func6, Trym.ntmps6
  go_wp2
  go_ret
  exact ⟨rfl, rfl⟩
end Go.Proofs.Qxb6618611aMods
