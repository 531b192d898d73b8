/-
  PARTS that both laws share: what a caller has stored still lies there behind a call; the bounds on the total length.
-/
import Derived.Test.Qxb6619055aModsCallers
import Derived.Laws.StructEq
import Derived.Deep.RegionWith
namespace Go.Proofs.Qxb6619055aMods
open Go.ChangeShapes Go.WideShapes Go.ChangeAt Go.RowKit

/-- What a caller has stored in a new block still lies there behind a call that writes no old memory. -/
theorem kept {w1 w2 : World} {x y : Value} (hb : Below (w1.alloc (.cells #[x, y] 24)).heap.size (w1.alloc (.cells #[x, y] 24)) w2) :
    w2.cell? ⟨w1.heap.size, 0, none⟩ = some x ∧ w2.cell? ⟨w1.heap.size, 1, none⟩ = some y ∧ w1.heap.size < w2.heap.size := by
  have hs := size_new w1 (.cells #[x, y] 24)
  have hz := hb.size
  have hn := heap_new w1 (.cells #[x, y] 24)
  refine ⟨?_, ?_, by omega⟩
  · rw [hb.cell (p := ⟨w1.heap.size, 0, none⟩) (by show w1.heap.size < _; omega)]
    simp only [World.cell?, hn]
    rfl
  · rw [hb.cell (p := ⟨w1.heap.size, 1, none⟩) (by show w1.heap.size < _; omega)]
    simp only [World.cell?, hn]
    rfl

/-- .. and so does what it stored earlier. -/
theorem kept_more {w1 w2 : World} {o : Obj} {p : Addr} {v : Value} (h : w1.cell? p = some v) (hb : Below (w1.alloc o).heap.size (w1.alloc o) w2) : w2.cell? p = some v := by
  have hlt := World.block_lt_of_cell? _ _ h
  have hs := size_new w1 o
  rw [hb.cell (by omega), ← h]
  exact World.cell?_of_block (heap_old _ _ _ hlt)

/-- A call that writes no old memory, and a new block behind it. -/
theorem next {w W w2 : World} (h : Below w.heap.size w W) (hb : Below W.heap.size W w2) (o : Obj) : Below w.heap.size w (w2.alloc o) :=
  (h.trans (hb.mono h.size)).alloc (Nat.le_trans h.size hb.size) o

theorem of_isEmpty {a : ByteArray} (h : a.toList.isEmpty = true) : a = { data := #[] } := by
  apply bytes_inj
  rw [ByteArray.toList_eq] at h
  simpa using h
end Go.Proofs.Qxb6619055aMods
