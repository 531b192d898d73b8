/-
  THE ROW OF TURNS that both laws make: 'make([]model.Message, n)', four cells a turn; the role of turn j lies at cell 4 * j.
-/
import Derived.Test.Qxb6605701aModsBounds
import Derived.Deep.OwnRows
import Derived.Deep.RegionWith
import Derived.WalkSmall
namespace Go.Proofs.Qxb6605701aMods
open Go.ChangeShapes Go.WideShapes Go.ChangeAt Go.RowKit

theorem Trym.info28 : (Trym.prog.info? 28).map (fun i => (i.zero, i.size, i.bytes)) = some (some (.agg #[.string { data := #[] }, .string { data := #[] }, .slice none 0 0, .string { data := #[] }]), 4, 72) := by kernel_rfl

/-- A fact kept from the walk. -/
theorem hide {p : Prop} (h : p) : Hid p := h

/-- Block B is a row of m turns, none of it frozen. -/
def Rowed (W : World) (B m : Nat) : Prop := ∃ cur : Array Value, W.heap[B]? = some (.cells cur 28 (0, 0)) ∧ cur.size = m * 4

/-- The first k turns bear the roles of ss. -/
def Filled (W : World) (B k : Nat) (ss : List ByteArray) : Prop := ∀ j, j < k → W.cell? ⟨B, j * 4, none⟩ = some (.string (ss.getD j ByteArray.empty))

/-- 'make' lays such a row at the heap's end. -/
theorem made (m : Nat) (L : Int) (hL : L = (m : Int)) (hm : m ≤ 65537) (w : World) :
    ∃ W1, (Instr.makeSlice 25 (.int .i64 L) (.int .i64 L)).run Trym.prog w = .ok (.slice (some ⟨w.heap.size, 0, none⟩) m m) W1 ∧ Rowed W1 w.heap.size m ∧ Below w.heap.size w W1 := by
  subst hL
  obtain ⟨i0, hi, hz0, hz1, hz2⟩ := info_parts Trym.info28
  have hb' : (i0.bytes : Int) * (m : Int) ≤ 281474976710656 := by rw [hz2]; omega
  have hr := run_make (P := Trym.prog) w 25 28 i0 _ Trym.underlying25 hi hz0 .i64 .i64 m m (by omega) (Int.le_refl _) hb' (by omega)
  simp only [Int.toNat_natCast, hz1] at hr
  exact ⟨_, hr, ⟨_, Deep.blk_alloc_new _ _, size_madeCells _ _⟩, (Below.refl _ _).alloc (Nat.le_refl _) _⟩

theorem Rowed.lt {W : World} {B m : Nat} (h : Rowed W B m) : B < W.heap.size := by
  obtain ⟨cur, hb, _⟩ := h
  exact (Array.getElem?_eq_some_iff.1 hb).1

/-- A role's cell lies there, and may be written. -/
theorem Rowed.at {W : World} {B m : Nat} (h : Rowed W B m) (k : Nat) (hk : k < m) : (∃ v, W.cell? ⟨B, k * 4, none⟩ = some v) ∧ W.frozen? ⟨B, k * 4, none⟩ = false := by
  obtain ⟨cur, hb, hs⟩ := h
  refine ⟨⟨cur[k * 4]'(by omega), ?_⟩, ?_⟩
  · simp [World.cell?, hb, show k * 4 < cur.size by omega]
  · simp [World.frozen?, hb]

/-- A store into it leaves a row. -/
theorem Rowed.set {W : World} {B m : Nat} (h : Rowed W B m) (o : Nat) (v : Value) : Rowed (W.setCell ⟨B, o, none⟩ v) B m := by
  obtain ⟨cur, hb, hs⟩ := h
  refine ⟨cur.setIfInBounds o v, ?_, by simpa using hs⟩
  simp [World.setCell, Array.getElem?_modify, hb]

/-- .. and the role that was stored. -/
theorem Rowed.stored {W : World} {B m : Nat} (h : Rowed W B m) (k : Nat) (hk : k < m) (v : Value) : (W.setCell ⟨B, k * 4, none⟩ v).cell? ⟨B, k * 4, none⟩ = some v := by
  obtain ⟨cur, hb, hs⟩ := h
  simp [World.cell?, World.setCell, Array.getElem?_modify, hb, show k * 4 < cur.size by omega]

theorem Filled.step {W : World} {B m k : Nat} {ss : List ByteArray} (h : Rowed W B m) (hk : k < m) (f : Filled W B k ss) : Filled (W.setCell ⟨B, k * 4, none⟩ (.string (ss.getD k ByteArray.empty))) B (k + 1) ss := by
  intro j hj
  by_cases e : j = k
  · subst e
    exact h.stored j hk _
  · rw [World.cell?_setCell_other]
    · exact f j (by omega)
    · intro h
      simp only [Addr.mk.injEq] at h
      omega

/-- What a gathering and a look at it do to memory: one new block, and draws. -/
theorem grew {w X : World} (h : Below w.heap.size w X) (o : Obj) (q : Nat) : Below w.heap.size w ((X.alloc o).drewN q) := below_drewN (h.alloc h.size o) q

theorem grew_block (X : World) (o : Obj) (q B : Nat) (h : B < X.heap.size) : ((X.alloc o).drewN q).heap[B]? = X.heap[B]? := Below.heap_alloc X o B h

theorem Rowed.grew {X : World} {B m : Nat} (h : Rowed X B m) (o : Obj) (q : Nat) : Rowed ((X.alloc o).drewN q) B m := by
  have hl := h.lt
  obtain ⟨cur, hb, hs⟩ := h
  exact ⟨cur, (grew_block X o q B hl).trans hb, hs⟩

theorem Filled.grew {X : World} {B k : Nat} {ss : List ByteArray} (f : Filled X B k ss) (hl : B < X.heap.size) (o : Obj) (q : Nat) : Filled ((X.alloc o).drewN q) B k ss := fun j hj =>
  (World.cell?_of_block (grew_block X o q B hl)).trans (f j hj)

/-- How many of the first k strings are t. -/
def cnt (ss : List ByteArray) (t : ByteArray) : Nat → Nat
  | 0 => 0
  | k + 1 => cnt ss t k + if ((ss.getD k ByteArray.empty).toList == t.toList) = true then 1 else 0

theorem cnt_le (ss : List ByteArray) (t : ByteArray) : ∀ k, cnt ss t k ≤ k
  | 0 => Nat.le_refl _
  | k + 1 => by
    have := cnt_le ss t k
    unfold cnt
    split <;> omega

theorem cnt_hit {ss : List ByteArray} {t : ByteArray} {k : Nat} {r : ByteArray} (hr : r = ss.getD k ByteArray.empty) (h : (r.toList == t.toList) = true) : cnt ss t (k + 1) = cnt ss t k + 1 := by
  subst hr
  show cnt ss t k + _ = _
  rw [if_pos h]

theorem cnt_miss {ss : List ByteArray} {t : ByteArray} {k : Nat} {r : ByteArray} (hr : r = ss.getD k ByteArray.empty) (h : (r.toList == t.toList) = false) : cnt ss t (k + 1) = cnt ss t k := by
  subst hr
  show cnt ss t k + _ = _
  rw [if_neg (by rw [h]; decide), Nat.add_zero]
end Go.Proofs.Qxb6605701aMods
