/-
  CONTRACTS of the callees of both laws.
-/
import Derived.Test.Qxb6605701aModsRows
import Derived.WalkKit
import Derived.ProofKit
import Derived.OpenShut
import Derived.Below
import Derived.Deep.QuietTactic
import Derived.BigQuiet
namespace Go.Proofs.Qxb6605701aMods
open Go.ChangeShapes Go.WideShapes Go.ChangeAt Go.RowKit

/-- 'ZZnewGathering': one new block. -/
theorem newG (a : Option Addr) (n c : Nat) (w : World) :
    Calls Trym.prog 7 #[.slice a n c] w fun e w' => e = .returned (.pointer (some ⟨w.heap.size, 0, none⟩)) ∧
      w' = w.alloc (.cells #[.slice a n c, .int .i64 (-1), .bool false, .map none, .bool false, .pointer none, .string { data := #[] }, .string { data := #[] }] 36) := by
  go_enter Trym.func7, Trym.ntmps7
  go_wp2
  go_ret
  exact ⟨rfl, rfl⟩

/-- 'ZZendsWith' (and 'endsWith' in it): no turn. -/
theorem ends_none (gb : Nat) (a : Option Addr) (c : Nat) (role : ByteArray) (w : World) (hg : w.cell? ⟨gb, 0, none⟩ = some (.slice a 0 c)) :
    Calls Trym.prog 8 #[.pointer (some ⟨gb, 0, none⟩), .string role] w fun e w' => e = .returned (.bool false) ∧ ∃ q, w' = w.drewN q := by
  go_enter Trym.func8, Trym.ntmps8
  go_wp2
  go_quiet (fail)
  go_wp2
  go_ret
  exact ⟨rfl, _, rfl⟩

/-- .. n + 1 turns, the last of role r. -/
theorem ends_some (gb tb to n c : Nat) (r role : ByteArray) (b : Bool) (w : World) (hn : n < 70000) (hg : w.cell? ⟨gb, 0, none⟩ = some (.slice (some ⟨tb, to, none⟩) (n + 1) c))
    (ht : w.cell? ⟨tb, to + n * 4, none⟩ = some (.string r)) (hb : (r.toList == role.toList) = b) :
    Calls Trym.prog 8 #[.pointer (some ⟨gb, 0, none⟩), .string role] w fun e w' => e = .returned (.bool b) ∧ ∃ q, w' = w.drewN q := by
  subst hb
  go_enter Trym.func8, Trym.ntmps8
  go_wp2
  go_quiet (fail)
  go_wp2
  go_ret
  exact ⟨rfl, _, rfl⟩

/-- WHAT THE WALKS ARE TOLD OF THE SLICE OF STRINGS THAT CAME IN: each of its elements lies where it should (nothing is said of its address where it has none). -/
def Strs (w : World) (a : Option Addr) (len : Nat) (ss : List ByteArray) : Prop :=
  ∀ k, k < len → ∃ b off, a = some ⟨b, off, none⟩ ∧ w.cell? ⟨b, off + k, none⟩ = some (.string (ss.getD k ByteArray.empty))

/-- 'bytesOfStrings': some number; nothing turns. -/
theorem bytes_any (a : Option Addr) (len cap : Nat) (ss : List ByteArray) (w : World) (hlen : len ≤ 65536) (hs : Strs w a len ss) :
    Calls Trym.prog 6 #[.slice a len cap] w fun e w' => (∃ n, e = .returned (.int .i64 n)) ∧ w' = w := by
  go_enter Trym.func6, Trym.ntmps6
  go_wp2
  go_loop [3, 4] (fun n i => ∃ k : Nat, k ≤ len ∧ i = .int .i64 k ∧ ∃ z, n = .int .i64 z) (fun _ i => len - (intOf i).toNat)
  case atStart => exact ⟨0, Nat.zero_le _, rfl, _, rfl⟩
  case round =>
    obtain ⟨k, hk, rfl, z, rfl⟩ := hrel
    by_cases hlt : k < len
    · obtain ⟨b, off, rfl, hc⟩ := hs k hlt
      clear hs
      go_wp2
      go_round
      case rel => exact ⟨k + 1, by omega, by go_num, _, rfl⟩
      case measure => simp [intOf]; omega
    · clear hs
      go_wp2
      go_ret
      exact ⟨⟨_, rfl⟩, rfl⟩
end Go.Proofs.Qxb6605701aMods
