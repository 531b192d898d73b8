/-
  THE MAPS THAT THE CALLERS OF 'RefOf' LAY, step by step: each store as an equation over a world that is known by its blocks alone; at the end what the look-ups give.
-/
import Derived.Test.Qxb6619055aModsMaps
namespace Go.Proofs.Qxb6619055aMods
open Go.ChangeShapes Go.WideShapes Go.ChangeAt Go.RowKit

/-- What the caller needs to know of its own result cells and of old memory when it calls 'RefOf'. -/
structure Ready (w W : World) : Prop where
  c0 : W.cell? ⟨w.heap.size, 0, none⟩ = some (.string { data := #[] })
  c1 : W.cell? ⟨w.heap.size, 1, none⟩ = some (.string { data := #[] })
  f0 : W.frozen? ⟨w.heap.size, 0, none⟩ = false
  f1 : W.frozen? ⟨w.heap.size, 1, none⟩ = false
  lt : w.heap.size < W.heap.size
  bel : Below w.heap.size w W

theorem ready_of (w W : World) (hb : W.heap[w.heap.size]? = some (.cells #[.string { data := #[] }, .string { data := #[] }] 24)) (bel : Below w.heap.size w W) : Ready w W :=
  ⟨by simp [World.cell?, hb], by simp [World.cell?, hb], by simp [World.frozen?, hb], by simp [World.frozen?, hb], (Array.getElem?_eq_some_iff.1 hb).1, bel⟩

theorem heap_old (W : World) (o : Obj) (k : Nat) (h : k < W.heap.size) : (W.alloc o).heap[k]? = W.heap[k]? := Below.heap_alloc W o k h
theorem heap_new (W : World) (o : Obj) : (W.alloc o).heap[W.heap.size]? = some o := by
  show (W.heap.push o)[W.heap.size]? = some o
  simp
theorem size_new (W : World) (o : Obj) : (W.alloc o).heap.size = W.heap.size + 1 := by
  show (W.heap.push o).size = _
  simp

/-- The result's block and the object's own map, one entry in it. -/
theorem made_one (w : World) (kv : Value) :
    ∃ W2, (Instr.mapUpdate 39 (.map (some (w.heap.size + 1))) (.string { data := #[107, 105, 110, 100] }) kv).run Trym.prog ((w.alloc (.cells #[.string { data := #[] }, .string { data := #[] }] 24)).alloc (.map #[] 0)) = .ok () W2 ∧
      Hid (W2.heap.size = w.heap.size + 2) ∧ Hid (W2.heap[w.heap.size + 1]? = some (.map #[{ key := .string { data := #[107, 105, 110, 100] }, val := kv, born := 0 }] 1)) ∧
      Hid (W2.heap[w.heap.size]? = some (.cells #[.string { data := #[] }, .string { data := #[] }] 24)) ∧ Below w.heap.size w W2 := by
  have s1 := size_new w (.cells #[.string { data := #[] }, .string { data := #[] }] 24)
  have hb : ((w.alloc (.cells #[.string { data := #[] }, .string { data := #[] }] 24)).alloc (.map #[] 0)).heap[w.heap.size + 1]? = some (.map #[] 0) := by
    rw [← s1]; exact heap_new _ _
  obtain ⟨W2, e2, z2, m2, o2, b2⟩ := upd (w.heap.size + 1) 0 #[] { data := #[107, 105, 110, 100] } kv _ hb rfl
  refine ⟨W2, e2, ?_, m2, ?_, ?_⟩
  · have := z2.out
    rw [size_new, s1] at this
    exact this
  · show W2.heap[w.heap.size]? = _
    rw [o2.out _ (by omega), heap_old _ _ _ (by omega)]
    exact heap_new _ _
  · exact b2 _ _ (((Below.refl _ _).alloc (Nat.le_refl _) _).alloc (by omega) _) (by omega)

/-- 'kind' and 'metadata', two entries in the latter. -/
theorem made_named (w : World) (kv nv gv : Value) :
    ∃ W2 W4 W5 W6, (Instr.mapUpdate 39 (.map (some (w.heap.size + 1))) (.string { data := #[107, 105, 110, 100] }) kv).run Trym.prog ((w.alloc (.cells #[.string { data := #[] }, .string { data := #[] }] 24)).alloc (.map #[] 0)) = .ok () W2 ∧
      (Instr.mapUpdate 39 (.map (some W2.heap.size)) (.string { data := #[110, 97, 109, 101] }) nv).run Trym.prog (W2.alloc (.map #[] 0)) = .ok () W4 ∧
      (Instr.mapUpdate 39 (.map (some W2.heap.size)) (.string { data := #[103, 101, 110, 101, 114, 97, 116, 101, 78, 97, 109, 101] }) gv).run Trym.prog W4 = .ok () W5 ∧
      (Instr.mapUpdate 39 (.map (some (w.heap.size + 1))) (.string { data := #[109, 101, 116, 97, 100, 97, 116, 97] }) (.iface 39 (.map (some W2.heap.size)))).run Trym.prog W5 = .ok () W6 ∧
      Ready w W6 ∧
      (∀ o, (Instr.lookup 39 (.map (some (w.heap.size + 1))) (.string { data := #[107, 105, 110, 100] }) false).run Trym.prog (W6.alloc o) = .ok kv (W6.alloc o)) ∧
      (∀ o, (Instr.lookup 39 (.map (some (w.heap.size + 1))) (.string { data := #[109, 101, 116, 97, 100, 97, 116, 97] }) false).run Trym.prog (W6.alloc o) = .ok (.iface 39 (.map (some W2.heap.size))) (W6.alloc o)) ∧
      (∀ o, (Instr.lookup 39 (.map (some W2.heap.size)) (.string { data := #[110, 97, 109, 101] }) false).run Trym.prog (W6.alloc o) = .ok nv (W6.alloc o)) ∧
      (∀ o, (Instr.lookup 39 (.map (some W2.heap.size)) (.string { data := #[103, 101, 110, 101, 114, 97, 116, 101, 78, 97, 109, 101] }) false).run Trym.prog (W6.alloc o) = .ok gv (W6.alloc o)) := by
  obtain ⟨W2, e2, z2, m2, r2, b2⟩ := made_one w kv
  have z2 := z2.out
  obtain ⟨W4, e4, z4, m4, o4, b4⟩ := upd W2.heap.size 0 #[] { data := #[110, 97, 109, 101] } nv (W2.alloc (.map #[] 0)) (heap_new _ _) rfl
  have z4' := z4.out
  rw [size_new] at z4'
  obtain ⟨W5, e5, z5, m5, o5, b5⟩ := upd W2.heap.size 1 _ { data := #[103, 101, 110, 101, 114, 97, 116, 101, 78, 97, 109, 101] } gv W4 m4.out (by kernel_rfl)
  have z5' := z5.out
  have k5 : W5.heap[w.heap.size + 1]? = some (.map #[{ key := .string { data := #[107, 105, 110, 100] }, val := kv, born := 0 }] 1) := by
    rw [o5.out _ (by omega), o4.out _ (by omega), heap_old _ _ _ (by omega)]
    exact m2.out
  obtain ⟨W6, e6, z6, m6, o6, b6⟩ := upd (w.heap.size + 1) 1 _ { data := #[109, 101, 116, 97, 100, 97, 116, 97] } (.iface 39 (.map (some W2.heap.size))) W5 k5 (by kernel_rfl)
  have z6' := z6.out
  have md6 := (o6.out W2.heap.size (by omega)).trans m5.out
  refine ⟨W2, W4, W5, W6, e2, e4, e5, e6, ready_of w W6 ?_ ?_, fun o => ?_, fun o => ?_, fun o => ?_, fun o => ?_⟩
  · rw [o6.out _ (by omega), o5.out _ (by omega), o4.out _ (by omega), heap_old _ _ _ (by omega)]
    exact r2.out
  · exact b6 _ _ (b5 _ _ (b4 _ _ (b2.alloc (by omega) _) (by omega)) (by omega)) (by omega)
  · exact look _ _ 0 _ _ _ _ ((heap_old _ _ _ (by omega)).trans m6.out) (by kernel_rfl)
  · exact look _ _ 1 _ _ _ _ ((heap_old _ _ _ (by omega)).trans m6.out) (by kernel_rfl)
  · exact look _ _ 0 _ _ _ _ ((heap_old _ _ _ (by omega)).trans md6) (by kernel_rfl)
  · exact look _ _ 1 _ _ _ _ ((heap_old _ _ _ (by omega)).trans md6) (by kernel_rfl)
/-- ONE ENTRY in 'metadata' (made_gen). -/
theorem made_gen (w : World) (kv xv : Value) :
    ∃ W2 W4 W6, (Instr.mapUpdate 39 (.map (some (w.heap.size + 1))) (.string { data := #[107, 105, 110, 100] }) kv).run Trym.prog ((w.alloc (.cells #[.string { data := #[] }, .string { data := #[] }] 24)).alloc (.map #[] 0)) = .ok () W2 ∧
      (Instr.mapUpdate 39 (.map (some W2.heap.size)) (.string { data := #[103, 101, 110, 101, 114, 97, 116, 101, 78, 97, 109, 101] }) xv).run Trym.prog (W2.alloc (.map #[] 0)) = .ok () W4 ∧
      (Instr.mapUpdate 39 (.map (some (w.heap.size + 1))) (.string { data := #[109, 101, 116, 97, 100, 97, 116, 97] }) (.iface 39 (.map (some W2.heap.size)))).run Trym.prog W4 = .ok () W6 ∧
      Ready w W6 ∧
      (∀ o, (Instr.lookup 39 (.map (some (w.heap.size + 1))) (.string { data := #[107, 105, 110, 100] }) false).run Trym.prog (W6.alloc o) = .ok kv (W6.alloc o)) ∧
      (∀ o, (Instr.lookup 39 (.map (some (w.heap.size + 1))) (.string { data := #[109, 101, 116, 97, 100, 97, 116, 97] }) false).run Trym.prog (W6.alloc o) = .ok (.iface 39 (.map (some W2.heap.size))) (W6.alloc o)) ∧
      (∀ o, (Instr.lookup 39 (.map (some W2.heap.size)) (.string { data := #[110, 97, 109, 101] }) false).run Trym.prog (W6.alloc o) = .ok .nilIface (W6.alloc o)) ∧
      (∀ o, (Instr.lookup 39 (.map (some W2.heap.size)) (.string { data := #[103, 101, 110, 101, 114, 97, 116, 101, 78, 97, 109, 101] }) false).run Trym.prog (W6.alloc o) = .ok xv (W6.alloc o)) := by
  obtain ⟨W2, e2, z2, m2, r2, b2⟩ := made_one w kv
  have z2 := z2.out
  obtain ⟨W4, e4, z4, m4, o4, b4⟩ := upd W2.heap.size 0 #[] { data := #[103, 101, 110, 101, 114, 97, 116, 101, 78, 97, 109, 101] } xv (W2.alloc (.map #[] 0)) (heap_new _ _) rfl
  have z4' := z4.out
  rw [size_new] at z4'
  have k4 : W4.heap[w.heap.size + 1]? = some (.map #[{ key := .string { data := #[107, 105, 110, 100] }, val := kv, born := 0 }] 1) := by
    rw [o4.out _ (by omega), heap_old _ _ _ (by omega)]
    exact m2.out
  obtain ⟨W6, e6, z6, m6, o6, b6⟩ := upd (w.heap.size + 1) 1 _ { data := #[109, 101, 116, 97, 100, 97, 116, 97] } (.iface 39 (.map (some W2.heap.size))) W4 k4 (by kernel_rfl)
  have z6' := z6.out
  have md6 := (o6.out W2.heap.size (by omega)).trans m4.out
  refine ⟨W2, W4, W6, e2, e4, e6, ready_of w W6 ?_ ?_, fun o => ?_, fun o => ?_, fun o => ?_, fun o => ?_⟩
  · rw [o6.out _ (by omega), o4.out _ (by omega), heap_old _ _ _ (by omega)]
    exact r2.out
  · exact b6 _ _ (b4 _ _ (b2.alloc (by omega) _) (by omega)) (by omega)
  · exact look _ _ 0 _ _ _ _ ((heap_old _ _ _ (by omega)).trans m6.out) (by kernel_rfl)
  · exact look _ _ 1 _ _ _ _ ((heap_old _ _ _ (by omega)).trans m6.out) (by kernel_rfl)
  · exact look_none _ _ _ _ _ ((heap_old _ _ _ (by omega)).trans md6) (by kernel_rfl)
  · exact look _ _ 0 _ _ _ _ ((heap_old _ _ _ (by omega)).trans md6) (by kernel_rfl)

/-- ONE ENTRY in 'metadata' (made_name). -/
theorem made_name (w : World) (kv xv : Value) :
    ∃ W2 W4 W6, (Instr.mapUpdate 39 (.map (some (w.heap.size + 1))) (.string { data := #[107, 105, 110, 100] }) kv).run Trym.prog ((w.alloc (.cells #[.string { data := #[] }, .string { data := #[] }] 24)).alloc (.map #[] 0)) = .ok () W2 ∧
      (Instr.mapUpdate 39 (.map (some W2.heap.size)) (.string { data := #[110, 97, 109, 101] }) xv).run Trym.prog (W2.alloc (.map #[] 0)) = .ok () W4 ∧
      (Instr.mapUpdate 39 (.map (some (w.heap.size + 1))) (.string { data := #[109, 101, 116, 97, 100, 97, 116, 97] }) (.iface 39 (.map (some W2.heap.size)))).run Trym.prog W4 = .ok () W6 ∧
      Ready w W6 ∧
      (∀ o, (Instr.lookup 39 (.map (some (w.heap.size + 1))) (.string { data := #[107, 105, 110, 100] }) false).run Trym.prog (W6.alloc o) = .ok kv (W6.alloc o)) ∧
      (∀ o, (Instr.lookup 39 (.map (some (w.heap.size + 1))) (.string { data := #[109, 101, 116, 97, 100, 97, 116, 97] }) false).run Trym.prog (W6.alloc o) = .ok (.iface 39 (.map (some W2.heap.size))) (W6.alloc o)) ∧
      (∀ o, (Instr.lookup 39 (.map (some W2.heap.size)) (.string { data := #[110, 97, 109, 101] }) false).run Trym.prog (W6.alloc o) = .ok xv (W6.alloc o)) ∧
      (∀ o, (Instr.lookup 39 (.map (some W2.heap.size)) (.string { data := #[103, 101, 110, 101, 114, 97, 116, 101, 78, 97, 109, 101] }) false).run Trym.prog (W6.alloc o) = .ok .nilIface (W6.alloc o)) := by
  obtain ⟨W2, e2, z2, m2, r2, b2⟩ := made_one w kv
  have z2 := z2.out
  obtain ⟨W4, e4, z4, m4, o4, b4⟩ := upd W2.heap.size 0 #[] { data := #[110, 97, 109, 101] } xv (W2.alloc (.map #[] 0)) (heap_new _ _) rfl
  have z4' := z4.out
  rw [size_new] at z4'
  have k4 : W4.heap[w.heap.size + 1]? = some (.map #[{ key := .string { data := #[107, 105, 110, 100] }, val := kv, born := 0 }] 1) := by
    rw [o4.out _ (by omega), heap_old _ _ _ (by omega)]
    exact m2.out
  obtain ⟨W6, e6, z6, m6, o6, b6⟩ := upd (w.heap.size + 1) 1 _ { data := #[109, 101, 116, 97, 100, 97, 116, 97] } (.iface 39 (.map (some W2.heap.size))) W4 k4 (by kernel_rfl)
  have z6' := z6.out
  have md6 := (o6.out W2.heap.size (by omega)).trans m4.out
  refine ⟨W2, W4, W6, e2, e4, e6, ready_of w W6 ?_ ?_, fun o => ?_, fun o => ?_, fun o => ?_, fun o => ?_⟩
  · rw [o6.out _ (by omega), o4.out _ (by omega), heap_old _ _ _ (by omega)]
    exact r2.out
  · exact b6 _ _ (b4 _ _ (b2.alloc (by omega) _) (by omega)) (by omega)
  · exact look _ _ 0 _ _ _ _ ((heap_old _ _ _ (by omega)).trans m6.out) (by kernel_rfl)
  · exact look _ _ 1 _ _ _ _ ((heap_old _ _ _ (by omega)).trans m6.out) (by kernel_rfl)
  · exact look _ _ 0 _ _ _ _ ((heap_old _ _ _ (by omega)).trans md6) (by kernel_rfl)
  · exact look_none _ _ _ _ _ ((heap_old _ _ _ (by omega)).trans md6) (by kernel_rfl)

/-- 'kind' alone. -/
theorem made_bare (w : World) (kv : Value) :
    ∃ W2, (Instr.mapUpdate 39 (.map (some (w.heap.size + 1))) (.string { data := #[107, 105, 110, 100] }) kv).run Trym.prog ((w.alloc (.cells #[.string { data := #[] }, .string { data := #[] }] 24)).alloc (.map #[] 0)) = .ok () W2 ∧
      Ready w W2 ∧
      (∀ o, (Instr.lookup 39 (.map (some (w.heap.size + 1))) (.string { data := #[107, 105, 110, 100] }) false).run Trym.prog (W2.alloc o) = .ok kv (W2.alloc o)) ∧
      (∀ o, (Instr.lookup 39 (.map (some (w.heap.size + 1))) (.string { data := #[109, 101, 116, 97, 100, 97, 116, 97] }) false).run Trym.prog (W2.alloc o) = .ok .nilIface (W2.alloc o)) := by
  obtain ⟨W2, e2, z2, m2, r2, b2⟩ := made_one w kv
  have z2 := z2.out
  refine ⟨W2, e2, ready_of w W2 r2.out b2, fun o => ?_, fun o => ?_⟩
  · exact look _ _ 0 _ _ _ _ ((heap_old _ _ _ (by omega)).trans m2.out) (by kernel_rfl)
  · exact look_none _ _ _ _ _ ((heap_old _ _ _ (by omega)).trans m2.out) (by kernel_rfl)
end Go.Proofs.Qxb6619055aMods
