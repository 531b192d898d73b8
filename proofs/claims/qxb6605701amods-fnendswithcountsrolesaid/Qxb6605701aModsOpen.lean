/-
  A SLICE OF STRINGS THAT CAME IN, opened to what the walks ask of it.
-/
import Derived.Test.Qxb6605701aModsRow
import Derived.SliceStrings
namespace Go.Proofs.Qxb6605701aMods
open Go.ChangeShapes Go.WideShapes Go.ChangeAt Go.RowKit

theorem Trym.cells9 : Trym.prog.cellsOf 9 = 1 := by kernel_rfl

theorem strs_of {H : Type} {enc : TypeId × Value → H} {W : World} {fuel : Nat} {a : Option Addr} {len cap : Nat} {x : DataW H × List MemPlace}
    (h : DataW.trod enc Trym.prog W 0 (fun _ => true) true fuel 22 [.slice a len cap] = some x) : ∃ ss, Strs W a len ss := by
  rcases open_strings Trym.underlying22 Trym.underlying9 Trym.cells9 h with ⟨hcs, _⟩ | ⟨y, l, c, ss, hcs, _, hl, hm, hz, _, hcell, _⟩
  · simp only [List.cons.injEq, Value.slice.injEq] at hcs
    obtain ⟨⟨rfl, rfl, rfl⟩, _⟩ := hcs
    exact ⟨[], fun k hk => by omega⟩
  · simp only [List.cons.injEq, Value.slice.injEq] at hcs
    obtain ⟨⟨rfl, rfl, rfl⟩, _⟩ := hcs
    simp only [if_true] at hz
    refine ⟨ss, fun k hk => ?_⟩
    have hck := hcell k (by omega)
    obtain ⟨b, off, spot⟩ := y
    have hspot : spot = none := by simpa [Addr.add] using World.cell?_spot (hcell 0 (by omega))
    subst hspot
    refine ⟨b, off, rfl, ?_⟩
    rw [← add_plain]
    exact hck
end Go.Proofs.Qxb6605701aMods
