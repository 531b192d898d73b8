/-
  THE BOUNDS on the total length ('zzBytes_..'): they answer; what they answer is not asked; nothing turns.
-/
import Derived.Test.Qxb6605701aModsCallees
namespace Go.Proofs.Qxb6605701aMods
open Go.ChangeShapes Go.WideShapes Go.ChangeAt Go.RowKit

/-- A bool is answered. (A name of its own: spelt out, the walk parts it in two.) -/
def SomeBool (e : Ending) : Prop := ∃ b, e = .returned (.bool b)

/-- More than 1 << 20 strings. -/
theorem zz5_long (a : Option Addr) (len cap : Nat) (s t : ByteArray) (w : World) (hlen : 1048576 < len) :
    Calls Trym.prog 5 #[.slice a len cap, .string s, .string t] w fun e w' => SomeBool e ∧ w' = w := by
  go_enter Trym.func5, Trym.ntmps5
  go_wp2
  go_ret
  exact ⟨⟨_, rfl⟩, rfl⟩

theorem zz5_short (a : Option Addr) (len cap : Nat) (ss : List ByteArray) (s t : ByteArray) (w : World) (hlen : len ≤ 1048576) (hs : Strs w a len ss) :
    Calls Trym.prog 5 #[.slice a len cap, .string s, .string t] w fun e w' => SomeBool e ∧ w' = w := by
  go_enter Trym.func5, Trym.ntmps5
  go_wp2
  go_loop [7, 8] (fun n i => ∃ k : Nat, k ≤ len ∧ i = .int .i64 k ∧ ∃ z, n = .int .i64 z) (fun _ i => len - (intOf i).toNat)
  case atStart => exact ⟨0, Nat.zero_le _, rfl, _, rfl⟩
  case round =>
    obtain ⟨k, hk, rfl, z, rfl⟩ := hrel
    by_cases hlt : k < len
    · obtain ⟨b, off, rfl, hc⟩ := hs k hlt
      clear hs
      go_wp2
      all_goals first
        | (go_round; (case rel => exact ⟨k + 1, by omega, by go_num, _, rfl⟩); (case measure => simp [intOf]; omega))
        | (go_ret; exact ⟨⟨_, rfl⟩, rfl⟩)
    · clear hs
      go_wp2
      all_goals (go_ret; exact ⟨⟨_, rfl⟩, rfl⟩)

theorem zz5_any (a : Option Addr) (len cap : Nat) (ss : List ByteArray) (s t : ByteArray) (w : World) (hs : Strs w a len ss) :
    Calls Trym.prog 5 #[.slice a len cap, .string s, .string t] w fun e w' => SomeBool e ∧ w' = w := by
  by_cases h : len ≤ 1048576
  · exact zz5_short a len cap ss s t w h hs
  · exact zz5_long a len cap s t w (by omega)

theorem zz9_long (a : Option Addr) (len cap : Nat) (s : ByteArray) (w : World) (hlen : 1048576 < len) :
    Calls Trym.prog 9 #[.slice a len cap, .string s] w fun e w' => SomeBool e ∧ w' = w := by
  go_enter Trym.func9, Trym.ntmps9
  go_wp2
  go_ret
  exact ⟨⟨_, rfl⟩, rfl⟩

theorem zz9_short (a : Option Addr) (len cap : Nat) (ss : List ByteArray) (s : ByteArray) (w : World) (hlen : len ≤ 1048576) (hs : Strs w a len ss) :
    Calls Trym.prog 9 #[.slice a len cap, .string s] w fun e w' => SomeBool e ∧ w' = w := by
  go_enter Trym.func9, Trym.ntmps9
  go_wp2
  go_loop [5, 6] (fun n i => ∃ k : Nat, k ≤ len ∧ i = .int .i64 k ∧ ∃ z, n = .int .i64 z) (fun _ i => len - (intOf i).toNat)
  case atStart => exact ⟨0, Nat.zero_le _, rfl, _, rfl⟩
  case round =>
    obtain ⟨k, hk, rfl, z, rfl⟩ := hrel
    by_cases hlt : k < len
    · obtain ⟨b, off, rfl, hc⟩ := hs k hlt
      clear hs
      go_wp2
      all_goals first
        | (go_round; (case rel => exact ⟨k + 1, by omega, by go_num, _, rfl⟩); (case measure => simp [intOf]; omega))
        | (go_ret; exact ⟨⟨_, rfl⟩, rfl⟩)
    · clear hs
      go_wp2
      all_goals (go_ret; exact ⟨⟨_, rfl⟩, rfl⟩)

theorem zz9_any (a : Option Addr) (len cap : Nat) (ss : List ByteArray) (s : ByteArray) (w : World) (hs : Strs w a len ss) :
    Calls Trym.prog 9 #[.slice a len cap, .string s] w fun e w' => SomeBool e ∧ w' = w := by
  by_cases h : len ≤ 1048576
  · exact zz9_short a len cap ss s w h hs
  · exact zz9_long a len cap s w (by omega)
end Go.Proofs.Qxb6605701aMods
