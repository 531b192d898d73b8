/-
  MAPS that the calls make themselves ('map[string]any', constant keys): one new entry, one look-up, one assertion, each as an equation for the walk.
-/
import Derived.Test.Qxb6619055aModsRows
import Derived.WalkKit
import Derived.ProofKit
import Derived.OpenShut
import Derived.Below
import Derived.WideMake
namespace Go.Proofs.Qxb6619055aMods
open Go.ChangeShapes Go.WideShapes Go.ChangeAt Go.RowKit

/-- A NEW ENTRY: the block holds one entry more; no other block turns. -/
theorem upd (r clock : Nat) (es : Array MapEntry) (s : ByteArray) (val : Value) (W : World) (hb : W.heap[r]? = some (.map es clock)) (hf : Instr.findNow .string (.string s) es.toList 0 = some none) :
    ∃ W', (Instr.mapUpdate 39 (.map (some r)) (.string s) val).run Trym.prog W = .ok () W' ∧ Hid (W'.heap.size = W.heap.size) ∧ Hid (W'.heap[r]? = some (.map (es.push { key := .string s, val := val, born := clock }) (clock + 1))) ∧
      Hid (∀ k, k ≠ r → W'.heap[k]? = W.heap[k]?) ∧ (∀ B w, Below B w W → B ≤ r → Below B w W') := by
  have hm : Trym.prog.underlying 39 = some (.map 9 20) := Trym.underlying39
  have hk : Trym.prog.underlying 9 = some .string := Trym.underlying9
  have hc : (Instr.checkKey false 10000 9 (.string s)).run Trym.prog W = .ok () W := MapKept.run_checkKey (k := .string s) hk (by simp [MapKept.IsKey]) false 9999
  have hlt : r < W.heap.size := (Array.getElem?_eq_some_iff.1 hb).1
  have ho : ∀ k, k ≠ r → (W.heap.setIfInBounds r (.map (es.push { key := .string s, val := val, born := clock }) (clock + 1)))[k]? = W.heap[k]? := by
    intro k hk
    rw [Array.getElem?_setIfInBounds, if_neg (fun h => hk h.symm)]
  refine ⟨{ W with heap := W.heap.setIfInBounds r (.map (es.push { key := .string s, val := val, born := clock }) (clock + 1)) }, ?_, ?_, ?_, ?_, ?_⟩
  · simp [Instr.mapUpdate, run_underlying hm, MapKept.run_getObj_map hb, hc, MapKept.run_findKey hk hf, MapKept.run_setObj_map _ hb, Result.andThen]
  · show (W.heap.setIfInBounds r _).size = W.heap.size
    simp
  · show (W.heap.setIfInBounds r _)[r]? = _
    rw [Array.getElem?_setIfInBounds]
    simp [hlt]
  · exact ho
  · intro B w h hB
    exact h.trans ⟨rfl, rfl, rfl, by simp, fun k hk => ho k (by omega)⟩

/-- A look-up that finds its key. -/
theorem look (r clock i : Nat) (es : Array MapEntry) (s : ByteArray) (v : Value) (W : World) (hb : W.heap[r]? = some (.map es clock)) (hf : Instr.findNow .string (.string s) es.toList 0 = some (some (i, v))) :
    (Instr.lookup 39 (.map (some r)) (.string s) false).run Trym.prog W = .ok v W := by
  have hm : Trym.prog.underlying 39 = some (.map 9 20) := Trym.underlying39
  have hk : Trym.prog.underlying 9 = some .string := Trym.underlying9
  have hc : ∀ b, (Instr.checkKey b 10000 9 (.string s)).run Trym.prog W = .ok () W := fun b => MapKept.run_checkKey (k := .string s) hk (by simp [MapKept.IsKey]) b 9999
  simp [Instr.lookup, run_underlying hm, MapKept.run_getObj_map hb, hc, MapKept.run_findKey hk hf, Result.andThen]

/-- A look-up that finds nothing. -/
theorem look_none (r clock : Nat) (es : Array MapEntry) (s : ByteArray) (W : World) (hb : W.heap[r]? = some (.map es clock)) (hf : Instr.findNow .string (.string s) es.toList 0 = some none) :
    (Instr.lookup 39 (.map (some r)) (.string s) false).run Trym.prog W = .ok .nilIface W := by
  have hm : Trym.prog.underlying 39 = some (.map 9 20) := Trym.underlying39
  have hk : Trym.prog.underlying 9 = some .string := Trym.underlying9
  have hc : ∀ b, (Instr.checkKey b 10000 9 (.string s)).run Trym.prog W = .ok () W := fun b => MapKept.run_checkKey (k := .string s) hk (by simp [MapKept.IsKey]) b 9999
  simp [Instr.lookup, run_underlying hm, MapKept.run_getObj_map hb, hc, MapKept.run_findKey hk hf, Result.andThen]

/-- A look-up in a nil map. -/
theorem look_nil (s : ByteArray) (W : World) : (Instr.lookup 39 (.map none) (.string s) false).run Trym.prog W = .ok .nilIface W := by
  have hm : Trym.prog.underlying 39 = some (.map 9 20) := Trym.underlying39
  have hk : Trym.prog.underlying 9 = some .string := Trym.underlying9
  have hc : ∀ b, (Instr.checkKey b 10000 9 (.string s)).run Trym.prog W = .ok () W := fun b => MapKept.run_checkKey (k := .string s) hk (by simp [MapKept.IsKey]) b 9999
  have hf : Instr.findNow .string (.string s) ([] : List MapEntry) 0 = some none := rfl
  simp [Instr.lookup, run_underlying hm, hc, MapKept.run_findKey hk hf, Result.andThen]

/-! The assertions -/
theorem assert_str (s : ByteArray) (W : World) : (Instr.typeAssert (.iface 9 (.string s)) 20 9 true).run Trym.prog W = .ok (.tuple #[.string s, .bool true]) W := by kernel_rfl
theorem assert_num (k : FloatKind) (x : Nat) (W : World) : (Instr.typeAssert (.iface 27 (.float k x)) 20 9 true).run Trym.prog W = .ok (.tuple #[.string { data := #[] }, .bool false]) W := by kernel_rfl
theorem assert_nil (W : World) : (Instr.typeAssert .nilIface 20 9 true).run Trym.prog W = .ok (.tuple #[.string { data := #[] }, .bool false]) W := by kernel_rfl
theorem assert_map (x : Option Nat) (W : World) : (Instr.typeAssert (.iface 39 (.map x)) 20 39 true).run Trym.prog W = .ok (.tuple #[.map x, .bool true]) W := by kernel_rfl
theorem assert_nomap (W : World) : (Instr.typeAssert .nilIface 20 39 true).run Trym.prog W = .ok (.tuple #[.map none, .bool false]) W := by kernel_rfl
theorem bare_isEmpty : ({ data := #[] } : ByteArray).toList.isEmpty = true := by kernel_rfl
end Go.Proofs.Qxb6619055aMods
