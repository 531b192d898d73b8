/-
  THE COPY that both laws make of their record first: 'zzc := make([]byte, len(rec)); copy(zzc, rec)': it runs, and nothing that was there turns.
-/
import Derived.Test.Qxb6617916aModsCallees
import Derived.Laws.CopyOwn
import Derived.Deep.OwnRows
import Derived.WalkSpells
namespace Go.Proofs.Qxb6617916aMods
open Go.ChangeShapes Go.WideShapes Go.ChangeAt Go.RowKit

theorem Trym.info5 : (Trym.prog.info? 5).map (fun i => (i.zero, i.size, i.bytes)) = some (some (.int .u8 0), 1, 1) := by kernel_rfl
theorem Trym.size5 : (Trym.prog.info? 5).map (·.size) = some 1 := by kernel_rfl

/-- The built-in copy out of a slice of bytes that came in, into the row that has just been made. -/
theorem copied (x : Addr) (n c : Nat) (zs : List Int) (w : World) (hl : n ≤ zs.length) (hc : ∀ i, i < zs.length → w.cell? (x.add i) = some (.int .u8 (zs.getD i 0))) :
    ∃ W2, (Builtin.copy_ #[22, 22] 3 #[.slice (some ⟨w.heap.size, 0, none⟩) n n, .slice (some x) n c]).run Trym.prog (w.alloc (.cells (madeCells #[.int .u8 0] n) 5)) = .ok (.int .i64 (n : Int)) W2 ∧ Below w.heap.size w W2 := by
  have hb : Below w.heap.size w (w.alloc (.cells (madeCells #[.int .u8 0] n) 5)) := (Below.refl _ _).alloc (Nat.le_refl _) _
  have hcl : ((zs.take n).map (Value.int .u8)).length = n := by simp; omega
  have h := run_copy_row (P := Trym.prog) (w.alloc (.cells (madeCells #[.int .u8 0] n) 5)) 22 22 3 5 w.heap.size 0 n n x n c (madeCells #[.int .u8 0] n) 5 ((zs.take n).map (Value.int .u8))
    Trym.underlying22 Trym.size5 (Deep.blk_alloc_new _ _) (by rw [hcl]; exact (Nat.min_self n).symm)
    (by
      intro j v hj
      have hlt : j < n := by
        have := (List.getElem?_eq_some_iff.1 hj).1
        omega
      have hv : v = .int .u8 (zs.getD j 0) := by
        rw [List.getElem?_map, List.getElem?_take_of_lt hlt, List.getElem?_eq_getElem (by omega)] at hj
        simp only [Option.map_some, Option.some.injEq] at hj
        rw [← hj, List.getD_eq_getElem?_getD, List.getElem?_eq_getElem (by omega), Option.getD_some]
      have hcell := hc j (by omega)
      rw [hv, ← hcell]
      exact hb.cell (World.block_lt_of_cell? _ _ hcell))
    (by rw [hcl, size_madeCells]; omega)
    (by intro v hv; obtain ⟨z, _, rfl⟩ := List.mem_map.1 hv; rfl)
  rw [hcl] at h
  exact ⟨_, h, below_setRow hb (Nat.le_refl _) _⟩

/-- A result that is decided to be true. -/
theorem ret_true {b : Bool} (h : b = true) : Ending.returned (.bool b) = .returned (.bool true) := by rw [h]
end Go.Proofs.Qxb6617916aMods
