/-
  CONTRACTS of the callees of both laws (the bound on the length; the framed length), over the given translation.
-/
import Derived.Test.Qxb6617916aModsRows
import Derived.WalkKit
import Derived.ProofKit
import Derived.OpenShut
import Derived.Below
namespace Go.Proofs.Qxb6617916aMods
open Go.ChangeShapes Go.WideShapes Go.ChangeAt Go.RowKit

/-- 'zzBytes_FnFramedLenGenerationAddsFour' within the bound. -/
theorem zz5_yes (a : Option Addr) (n c : Nat) (g : Int) (hn : n ≤ 1048576) (w : World) :
    Calls Trym.prog 5 #[.slice a n c, .int .u32 g] w fun e w' => e = .returned (.bool true) ∧ w' = w := by
  go_enter Trym.func5, Trym.ntmps5
  go_wp2
  go_ret
  exact ⟨rfl, rfl⟩

/-- .. beyond the bound. -/
theorem zz5_no (a : Option Addr) (n c : Nat) (g : Int) (hn : 1048576 < n) (w : World) :
    Calls Trym.prog 5 #[.slice a n c, .int .u32 g] w fun e w' => e = .returned (.bool false) ∧ w' = w := by
  go_enter Trym.func5, Trym.ntmps5
  go_wp2
  go_ret
  exact ⟨rfl, rfl⟩

/-- 'zzBytes_FnFramedLenSplitAtAnyCut' within the bound. -/
theorem zz7_yes (a : Option Addr) (n c : Nat) (g k : Int) (hn : n ≤ 1048576) (w : World) :
    Calls Trym.prog 7 #[.slice a n c, .int .u32 g, .int .i64 k] w fun e w' => e = .returned (.bool true) ∧ w' = w := by
  go_enter Trym.func7, Trym.ntmps7
  go_wp2
  go_ret
  exact ⟨rfl, rfl⟩

/-- .. beyond the bound. -/
theorem zz7_no (a : Option Addr) (n c : Nat) (g k : Int) (hn : 1048576 < n) (w : World) :
    Calls Trym.prog 7 #[.slice a n c, .int .u32 g, .int .i64 k] w fun e w' => e = .returned (.bool false) ∧ w' = w := by
  go_enter Trym.func7, Trym.ntmps7
  go_wp2
  go_ret
  exact ⟨rfl, rfl⟩

/-- 'ZZframedLen' (and 'framedLen' in it) in a fresh file: generation 0. -/
theorem fl_fresh (a : Option Addr) (n c : Nat) (g : Int) (hg : (g == 0) = true) (hn : n ≤ 1048576) (w : World) :
    Calls Trym.prog 6 #[.slice a n c, .int .u32 g] w fun e w' => e = .returned (.int .i64 (8 + (n : Int))) ∧ w' = w := by
  go_enter Trym.func6, Trym.ntmps6
  go_wp2
  go_ret
  exact ⟨rfl, rfl⟩

/-- .. in a reused file: a generation other than 0. -/
theorem fl_used (a : Option Addr) (n c : Nat) (g : Int) (hg : (g == 0) = false) (hn : n ≤ 1048576) (w : World) :
    Calls Trym.prog 6 #[.slice a n c, .int .u32 g] w fun e w' => e = .returned (.int .i64 (12 + (n : Int))) ∧ w' = w := by
  go_enter Trym.func6, Trym.ntmps6
  go_wp2
  go_ret
  exact ⟨rfl, rfl⟩
end Go.Proofs.Qxb6617916aMods
