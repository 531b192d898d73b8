/-
  THE CONTRACT OF 'RefOf': what its four look-ups and its four assertions give decides what it answers; it lays one block, its answer.
-/
import Derived.Test.Qxb6619055aModsRows
import Derived.WalkKit
import Derived.ProofKit
import Derived.OpenShut
import Derived.Below
namespace Go.Proofs.Qxb6619055aMods
open Go.ChangeShapes Go.WideShapes Go.ChangeAt Go.RowKit

/-- A name is given: it is the answer's name. -/
theorem refOf_named (m md kv mv nv : Value) (s n : ByteArray) (b1 b2 b3 : Bool) (w : World)
    (hk : ∀ o, (Instr.lookup 39 m (.string { data := #[107, 105, 110, 100] }) false).run Trym.prog (w.alloc o) = .ok kv (w.alloc o))
    (hm : ∀ o, (Instr.lookup 39 m (.string { data := #[109, 101, 116, 97, 100, 97, 116, 97] }) false).run Trym.prog (w.alloc o) = .ok mv (w.alloc o))
    (hn : ∀ o, (Instr.lookup 39 md (.string { data := #[110, 97, 109, 101] }) false).run Trym.prog (w.alloc o) = .ok nv (w.alloc o))
    (ak : ∀ W, (Instr.typeAssert kv 20 9 true).run Trym.prog W = .ok (.tuple #[.string s, .bool b1]) W)
    (am : ∀ W, (Instr.typeAssert mv 20 39 true).run Trym.prog W = .ok (.tuple #[md, .bool b2]) W)
    (an : ∀ W, (Instr.typeAssert nv 20 9 true).run Trym.prog W = .ok (.tuple #[.string n, .bool b3]) W)
    (he : n.toList.isEmpty = false) :
    Calls Trym.prog 19 #[m] w fun e w' => e = .returned (.agg #[.string s, .string n]) ∧ w' = w.alloc (.cells #[.string s, .string n] 24) := by
  go_enter Trym.func19, Trym.ntmps19
  go_wp2
  exact bodyPost_ret (v := .agg #[.string s, .string n]) (by simp [results, Trym.results19, go_sem]) rfl ⟨rfl, rfl⟩

/-- No name is given: the answer's name is the one that is to be generated from. -/
theorem refOf_gen (m md kv mv nv gv : Value) (s n g : ByteArray) (b1 b2 b3 b4 : Bool) (w : World)
    (hk : ∀ o, (Instr.lookup 39 m (.string { data := #[107, 105, 110, 100] }) false).run Trym.prog (w.alloc o) = .ok kv (w.alloc o))
    (hm : ∀ o, (Instr.lookup 39 m (.string { data := #[109, 101, 116, 97, 100, 97, 116, 97] }) false).run Trym.prog (w.alloc o) = .ok mv (w.alloc o))
    (hn : ∀ o, (Instr.lookup 39 md (.string { data := #[110, 97, 109, 101] }) false).run Trym.prog (w.alloc o) = .ok nv (w.alloc o))
    (hg : ∀ o, (Instr.lookup 39 md (.string { data := #[103, 101, 110, 101, 114, 97, 116, 101, 78, 97, 109, 101] }) false).run Trym.prog (w.alloc o) = .ok gv (w.alloc o))
    (ak : ∀ W, (Instr.typeAssert kv 20 9 true).run Trym.prog W = .ok (.tuple #[.string s, .bool b1]) W)
    (am : ∀ W, (Instr.typeAssert mv 20 39 true).run Trym.prog W = .ok (.tuple #[md, .bool b2]) W)
    (an : ∀ W, (Instr.typeAssert nv 20 9 true).run Trym.prog W = .ok (.tuple #[.string n, .bool b3]) W)
    (ag : ∀ W, (Instr.typeAssert gv 20 9 true).run Trym.prog W = .ok (.tuple #[.string g, .bool b4]) W)
    (he : n.toList.isEmpty = true) :
    Calls Trym.prog 19 #[m] w fun e w' => e = .returned (.agg #[.string s, .string g]) ∧ w' = w.alloc (.cells #[.string s, .string g] 24) := by
  go_enter Trym.func19, Trym.ntmps19
  go_wp2
  exact bodyPost_ret (v := .agg #[.string s, .string g]) (by simp [results, Trym.results19, go_sem]) rfl ⟨rfl, rfl⟩
end Go.Proofs.Qxb6619055aMods
