/-
  CONTRACTS of the functions that lay an object and call 'RefOf' on it.
-/
import Derived.Test.Qxb6619055aModsRefOf
import Derived.Test.Qxb6619055aModsMade
namespace Go.Proofs.Qxb6619055aMods
open Go.ChangeShapes Go.WideShapes Go.ChangeAt Go.RowKit

theorem stored_below {w W : World} (hlt : w.heap.size < W.heap.size) (bel : Below w.heap.size w W) (x y : Value) (o : Obj) :
    Below w.heap.size w (((W.setCell ⟨w.heap.size, 0, none⟩ x).setCell ⟨w.heap.size, 1, none⟩ y).alloc o) :=
  ((bel.setCell (Nat.le_refl _) _).setCell (Nat.le_refl _) _).alloc (by simp [World.setCell]; omega) _

/-- 'ZZrefOfNamed', a name that is not empty. -/
theorem named_yes (a0 a1 a2 : ByteArray) (w : World) (he : a1.toList.isEmpty = false) :
    Calls Trym.prog 8 #[.string a0, .string a1, .string a2] w fun e w' => e = .returned (.agg #[.string a0, .string a1]) ∧ Below w.heap.size w w' := by
  have hmm := @run_makeMap Trym.prog
  obtain ⟨W2, W4, W5, W6, e2, e4, e5, e6, R, lk, lm, ln, lg⟩ := made_named w (.iface 9 (.string a0)) (.iface 9 (.string a1)) (.iface 9 (.string a2))
  obtain ⟨c0, c1, f0, f1, hlt, bel⟩ := R
  go_enter Trym.func8, Trym.ntmps8
  go_wp2_with (go_at_call 19; refine (refOf_named _ _ _ _ _ _ _ _ _ _ _ lk lm ln (assert_str _) (assert_map _) (assert_str _) he).mono ?_; rintro e w' ⟨rfl, rfl⟩)
  exact bodyPost_ret (v := .agg #[.string a0, .string a1]) (by simp [results, Trym.results8, go_sem, c0, c1, hlt]) rfl ⟨rfl, stored_below hlt bel _ _ _⟩
/-- 'ZZrefOfNamed', an empty name: the object is named by its generateName. -/
theorem named_no (a0 a1 a2 : ByteArray) (w : World) (he : a1.toList.isEmpty = true) :
    Calls Trym.prog 8 #[.string a0, .string a1, .string a2] w fun e w' => e = .returned (.agg #[.string a0, .string a2]) ∧ Below w.heap.size w w' := by
  have hmm := @run_makeMap Trym.prog
  obtain ⟨W2, W4, W5, W6, e2, e4, e5, e6, R, lk, lm, ln, lg⟩ := made_named w (.iface 9 (.string a0)) (.iface 9 (.string a1)) (.iface 9 (.string a2))
  obtain ⟨c0, c1, f0, f1, hlt, bel⟩ := R
  go_enter Trym.func8, Trym.ntmps8
  go_wp2_with (go_at_call 19; refine (refOf_gen _ _ _ _ _ _ _ _ _ _ _ _ _ _ lk lm ln lg (assert_str _) (assert_map _) (assert_str _) (assert_str _) he).mono ?_; rintro e w' ⟨rfl, rfl⟩)
  exact bodyPost_ret (v := .agg #[.string a0, .string a2]) (by simp [results, Trym.results8, go_sem, c0, c1, hlt]) rfl ⟨rfl, stored_below hlt bel _ _ _⟩

/-- 'ZZrefOfGenerateNameOnly'. -/
theorem gen_only (a0 a2 : ByteArray) (w : World) :
    Calls Trym.prog 9 #[.string a0, .string a2] w fun e w' => e = .returned (.agg #[.string a0, .string a2]) ∧ Below w.heap.size w w' := by
  have hmm := @run_makeMap Trym.prog
  obtain ⟨W2, W4, W6, e2, e4, e6, R, lk, lm, ln, lg⟩ := made_gen w (.iface 9 (.string a0)) (.iface 9 (.string a2))
  obtain ⟨c0, c1, f0, f1, hlt, bel⟩ := R
  go_enter Trym.func9, Trym.ntmps9
  go_wp2_with (go_at_call 19; refine (refOf_gen _ _ _ _ _ _ _ _ _ _ _ _ _ _ lk lm ln lg (assert_str _) (assert_map _) assert_nil (assert_str _) bare_isEmpty).mono ?_; rintro e w' ⟨rfl, rfl⟩)
  exact bodyPost_ret (v := .agg #[.string a0, .string a2]) (by simp [results, Trym.results9, go_sem, c0, c1, hlt]) rfl ⟨rfl, stored_below hlt bel _ _ _⟩

/-- 'ZZrefOfNumberName': a number counts as no name. -/
theorem num_name (a0 a2 : ByteArray) (k : FloatKind) (x : Nat) (w : World) :
    Calls Trym.prog 11 #[.string a0, .float k x, .string a2] w fun e w' => e = .returned (.agg #[.string a0, .string a2]) ∧ Below w.heap.size w w' := by
  have hmm := @run_makeMap Trym.prog
  obtain ⟨W2, W4, W5, W6, e2, e4, e5, e6, R, lk, lm, ln, lg⟩ := made_named w (.iface 9 (.string a0)) (.iface 27 (.float k x)) (.iface 9 (.string a2))
  obtain ⟨c0, c1, f0, f1, hlt, bel⟩ := R
  go_enter Trym.func11, Trym.ntmps11
  go_wp2_with (go_at_call 19; refine (refOf_gen _ _ _ _ _ _ _ _ _ _ _ _ _ _ lk lm ln lg (assert_str _) (assert_map _) (assert_num _ _) (assert_str _) bare_isEmpty).mono ?_; rintro e w' ⟨rfl, rfl⟩)
  exact bodyPost_ret (v := .agg #[.string a0, .string a2]) (by simp [results, Trym.results11, go_sem, c0, c1, hlt]) rfl ⟨rfl, stored_below hlt bel _ _ _⟩

/-- 'ZZrefOfNoMetadata'. -/
theorem no_meta (a0 : ByteArray) (w : World) :
    Calls Trym.prog 12 #[.string a0] w fun e w' => e = .returned (.agg #[.string a0, .string { data := #[] }]) ∧ Below w.heap.size w w' := by
  have hmm := @run_makeMap Trym.prog
  obtain ⟨W2, e2, R, lk, lm⟩ := made_bare w (.iface 9 (.string a0))
  obtain ⟨c0, c1, f0, f1, hlt, bel⟩ := R
  go_enter Trym.func12, Trym.ntmps12
  go_wp2_with (go_at_call 19; refine (refOf_gen _ _ _ _ _ _ _ _ _ _ _ _ _ _ lk lm (fun _ => look_nil _ _) (fun _ => look_nil _ _) (assert_str _) assert_nomap assert_nil assert_nil bare_isEmpty).mono ?_; rintro e w' ⟨rfl, rfl⟩)
  exact bodyPost_ret (v := .agg #[.string a0, .string { data := #[] }]) (by simp [results, Trym.results12, go_sem, c0, c1, hlt]) rfl ⟨rfl, stored_below hlt bel _ _ _⟩

/-- 'ZZrefOfNumberKind', a name that is not empty: a number counts as no kind. -/
theorem num_kind_yes (a2 : ByteArray) (k : FloatKind) (x : Nat) (w : World) (he : a2.toList.isEmpty = false) :
    Calls Trym.prog 13 #[.float k x, .string a2] w fun e w' => e = .returned (.agg #[.string { data := #[] }, .string a2]) ∧ Below w.heap.size w w' := by
  have hmm := @run_makeMap Trym.prog
  obtain ⟨W2, W4, W6, e2, e4, e6, R, lk, lm, ln, lg⟩ := made_name w (.iface 27 (.float k x)) (.iface 9 (.string a2))
  obtain ⟨c0, c1, f0, f1, hlt, bel⟩ := R
  go_enter Trym.func13, Trym.ntmps13
  go_wp2_with (go_at_call 19; refine (refOf_named _ _ _ _ _ _ _ _ _ _ _ lk lm ln (assert_num _ _) (assert_map _) (assert_str _) he).mono ?_; rintro e w' ⟨rfl, rfl⟩)
  exact bodyPost_ret (v := .agg #[.string { data := #[] }, .string a2]) (by simp [results, Trym.results13, go_sem, c0, c1, hlt]) rfl ⟨rfl, stored_below hlt bel _ _ _⟩

/-- .. an empty name. -/
theorem num_kind_no (a2 : ByteArray) (k : FloatKind) (x : Nat) (w : World) (he : a2.toList.isEmpty = true) :
    Calls Trym.prog 13 #[.float k x, .string a2] w fun e w' => e = .returned (.agg #[.string { data := #[] }, .string { data := #[] }]) ∧ Below w.heap.size w w' := by
  have hmm := @run_makeMap Trym.prog
  obtain ⟨W2, W4, W6, e2, e4, e6, R, lk, lm, ln, lg⟩ := made_name w (.iface 27 (.float k x)) (.iface 9 (.string a2))
  obtain ⟨c0, c1, f0, f1, hlt, bel⟩ := R
  go_enter Trym.func13, Trym.ntmps13
  go_wp2_with (go_at_call 19; refine (refOf_gen _ _ _ _ _ _ _ _ _ _ _ _ _ _ lk lm ln lg (assert_num _ _) (assert_map _) (assert_str _) assert_nil he).mono ?_; rintro e w' ⟨rfl, rfl⟩)
  exact bodyPost_ret (v := .agg #[.string { data := #[] }, .string { data := #[] }]) (by simp [results, Trym.results13, go_sem, c0, c1, hlt]) rfl ⟨rfl, stored_below hlt bel _ _ _⟩
end Go.Proofs.Qxb6619055aMods
