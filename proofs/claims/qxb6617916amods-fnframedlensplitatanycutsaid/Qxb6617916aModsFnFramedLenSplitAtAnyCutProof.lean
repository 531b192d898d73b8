/-
  THE PROOF OF 'Rows.FnFramedLenSplitAtAnyCutSaid': the frame is the shell that came with the seat (proof-skeleton.mjs); the walks are ours.
-/
import Derived.Test.Qxb6617916aModsRows
import Derived.WalkKit
import Derived.ProofKit
import Derived.OpenShut
import Derived.ShutString
import Derived.ChangeOld
import Derived.Below
import Derived.Test.Qxb6617916aModsCopy
namespace Go.Proofs.Qxb6617916aMods.fnFramedLenSplitAtAnyCut
open Go.ChangeShapes Go.WideShapes Go.ChangeAt Go.RowKit
open Go.ChangeMaps (open_string shut_string)
set_option linter.unusedVariables false

theorem own : ownKnob Trym.prog.godebug = none := by kernel_rfl
theorem laidOut : laidOutB Trym.prog = true := by kernel_rfl

/-- WHAT THE WALK IS TOLD OF A SLICE OF INTEGERS THAT CAME IN: it is nil; or it leads to a row of 'cap' cells, the numbers 'zs' (the first 'len' are its elements, the rest its spare room), each fitting its kind. -/
def IsRow (k : IntKind) (w : World) (a : Option Addr) (len cap : Nat) (zs : List Int) : Prop :=
  (a = none ∧ len = 0 ∧ cap = 0 ∧ zs = []) ∨
  ∃ x, a = some x ∧ len ≤ cap ∧ cap ≤ maxLen ∧ zs.length = cap ∧ (∀ i, i < zs.length → w.cell? (x.add i) = some (.int k (zs.getD i 0))) ∧ ∀ n ∈ zs, (Lit.int k n).wf = true

/-! ### STEP 1: THE WALKS: the Go text returns true and writes nothing that was there -/
/-- Beyond the bound on the length: nothing is looked at. -/
theorem beyond (a : Option Addr) (n c : Nat) (g k : Int) (w : World) (hn : 1048576 < n) :
    Calls Trym.prog 4 #[.slice a n c, .int .u32 g, .int .i64 k] w fun e w' => e = .returned (.bool true) ∧ Below w.heap.size w w' := by
  go_enter Trym.func4, Trym.ntmps4
  go_wp2_with (go_at_call 7; refine (zz7_no _ _ _ _ _ hn _).mono ?_; rintro e w' ⟨rfl, rfl⟩)
  go_ret
  exact ⟨rfl, Below.refl _ _⟩

/-- A negative cut. -/
theorem cut_low (a : Option Addr) (n c : Nat) (g k : Int) (w : World) (hn : n ≤ 1048576) (hk : k < 0) :
    Calls Trym.prog 4 #[.slice a n c, .int .u32 g, .int .i64 k] w fun e w' => e = .returned (.bool true) ∧ Below w.heap.size w w' := by
  go_enter Trym.func4, Trym.ntmps4
  go_wp2_with (go_at_call 7; refine (zz7_yes _ _ _ _ _ hn _).mono ?_; rintro e w' ⟨rfl, rfl⟩)
  go_ret
  exact ⟨rfl, Below.refl _ _⟩

/-- A cut beyond the record's end. -/
theorem cut_high (a : Option Addr) (n c : Nat) (g k : Int) (w : World) (hn : n ≤ 1048576) (hk : (n : Int) < k) :
    Calls Trym.prog 4 #[.slice a n c, .int .u32 g, .int .i64 k] w fun e w' => e = .returned (.bool true) ∧ Below w.heap.size w w' := by
  have hk0 : ¬ k < 0 := by omega
  go_enter Trym.func4, Trym.ntmps4
  go_wp2_with (go_at_call 7; refine (zz7_yes _ _ _ _ _ hn _).mono ?_; rintro e w' ⟨rfl, rfl⟩)
  go_ret
  exact ⟨rfl, Below.refl _ _⟩

/-- A nil record, generation 0. -/
theorem nil_fresh (g : Int) (w : World) (hg : (g == 0) = true) :
    Calls Trym.prog 4 #[.slice none 0 0, .int .u32 g, .int .i64 0] w fun e w' => e = .returned (.bool true) ∧ Below w.heap.size w w' := by
  have hnil : ∀ W, (binOp .neq 22 (.slice none 0 0) (.slice none 0 0)).run Trym.prog W = .ok (.bool false) W := fun W => run_neq_slice_nil_any W 22 5 none 0 0 0 0 Trym.underlying22
  go_enter Trym.func4, Trym.ntmps4
  go_wp2_with (first
    | (go_at_call 7; refine (zz7_yes _ _ _ _ _ (by omega) _).mono ?_; rintro e w' ⟨rfl, rfl⟩)
    | (go_at_call 6; refine (fl_fresh _ _ _ _ hg (by omega) _).mono ?_; rintro e w' ⟨rfl, rfl⟩))
  go_ret
  exact ⟨rfl, Below.refl _ _⟩

/-- A nil record, another generation. -/
theorem nil_used (g : Int) (w : World) (hg : (g == 0) = false) :
    Calls Trym.prog 4 #[.slice none 0 0, .int .u32 g, .int .i64 0] w fun e w' => e = .returned (.bool true) ∧ Below w.heap.size w w' := by
  have hnil : ∀ W, (binOp .neq 22 (.slice none 0 0) (.slice none 0 0)).run Trym.prog W = .ok (.bool false) W := fun W => run_neq_slice_nil_any W 22 5 none 0 0 0 0 Trym.underlying22
  go_enter Trym.func4, Trym.ntmps4
  go_wp2_with (first
    | (go_at_call 7; refine (zz7_yes _ _ _ _ _ (by omega) _).mono ?_; rintro e w' ⟨rfl, rfl⟩)
    | (go_at_call 6; refine (fl_used _ _ _ _ hg (by omega) _).mono ?_; rintro e w' ⟨rfl, rfl⟩))
  go_ret
  exact ⟨rfl, Below.refl _ _⟩

/-- A record that is not nil, generation 0. -/
theorem rec_fresh (x : Addr) (n c k : Nat) (zs : List Int) (g : Int) (w : World) (hn : n ≤ 1048576) (hk : k ≤ n) (hg : (g == 0) = true) (hl : n ≤ zs.length) (hc : ∀ i, i < zs.length → w.cell? (x.add i) = some (.int .u8 (zs.getD i 0))) :
    Calls Trym.prog 4 #[.slice (some x) n c, .int .u32 g, .int .i64 (k : Int)] w fun e w' => e = .returned (.bool true) ∧ Below w.heap.size w w' := by
  obtain ⟨i0, hi, hz0, hz1, hz2⟩ := info_parts Trym.info5
  have hnil : ∀ W, (binOp .neq 22 (.slice (some x) n c) (.slice none 0 0)).run Trym.prog W = .ok (.bool true) W := fun W => run_neq_slice_nil_any W 22 5 (some x) n c 0 0 Trym.underlying22
  obtain ⟨W2, hcopy, hB⟩ := copied x n c zs w hl hc
  clear hc
  go_enter Trym.func4, Trym.ntmps4
  go_wp2_with (first
    | (go_at_call 7; refine (zz7_yes _ _ _ _ _ hn _).mono ?_; rintro e w' ⟨rfl, rfl⟩)
    | (go_at_call 6; refine (fl_fresh _ _ _ _ hg (by omega) _).mono ?_; rintro e w' ⟨rfl, rfl⟩)
    | (at_make; refine wpList_make_row _ rfl _ _ 22 rfl 5 i0 (.int .u8 0) Trym.underlying22 hi hz0 hz1 rfl .i64 .i64 n rfl rfl (by rw [hz2]; omega) (by omega) ?_))
  go_ret
  exact ⟨ret_true (decide_eq_true (by omega)), hB⟩

/-- A record that is not nil, another generation. -/
theorem rec_used (x : Addr) (n c k : Nat) (zs : List Int) (g : Int) (w : World) (hn : n ≤ 1048576) (hk : k ≤ n) (hg : (g == 0) = false) (hl : n ≤ zs.length) (hc : ∀ i, i < zs.length → w.cell? (x.add i) = some (.int .u8 (zs.getD i 0))) :
    Calls Trym.prog 4 #[.slice (some x) n c, .int .u32 g, .int .i64 (k : Int)] w fun e w' => e = .returned (.bool true) ∧ Below w.heap.size w w' := by
  obtain ⟨i0, hi, hz0, hz1, hz2⟩ := info_parts Trym.info5
  have hnil : ∀ W, (binOp .neq 22 (.slice (some x) n c) (.slice none 0 0)).run Trym.prog W = .ok (.bool true) W := fun W => run_neq_slice_nil_any W 22 5 (some x) n c 0 0 Trym.underlying22
  obtain ⟨W2, hcopy, hB⟩ := copied x n c zs w hl hc
  clear hc
  go_enter Trym.func4, Trym.ntmps4
  go_wp2_with (first
    | (go_at_call 7; refine (zz7_yes _ _ _ _ _ hn _).mono ?_; rintro e w' ⟨rfl, rfl⟩)
    | (go_at_call 6; refine (fl_used _ _ _ _ hg (by omega) _).mono ?_; rintro e w' ⟨rfl, rfl⟩)
    | (at_make; refine wpList_make_row _ rfl _ _ 22 rfl 5 i0 (.int .u8 0) Trym.underlying22 hi hz0 hz1 rfl .i64 .i64 n rfl rfl (by rw [hz2]; omega) (by omega) ?_))
  go_ret
  exact ⟨ret_true (decide_eq_true (by omega)), hB⟩

theorem walk (a0 : Option Addr) (len0 cap0 : Nat) (z0 : List Int) (a1 : Int) (a2 : Int) (w : World) (w0 : IsRow .u8 w a0 len0 cap0 z0) (w1 : (Lit.int .u32 a1).wf = true) (w2 : (Lit.int .i64 a2).wf = true) :
    Calls Trym.prog 4 #[.slice a0 len0 cap0, .int .u32 a1, .int .i64 a2] w fun e w' => e = .returned (.bool true) ∧ Below w.heap.size w w' := by
  by_cases hn : len0 ≤ 1048576
  · by_cases hk0 : a2 < 0
    · exact cut_low a0 len0 cap0 a1 a2 w hn hk0
    · by_cases hk1 : (len0 : Int) < a2
      · exact cut_high a0 len0 cap0 a1 a2 w hn hk1
      · obtain ⟨k, rfl⟩ : ∃ k : Nat, a2 = (k : Int) := ⟨a2.toNat, by omega⟩
        rcases w0 with ⟨rfl, rfl, rfl, rfl⟩ | ⟨x, rfl, hlc, hm, hz, hc, hw⟩
        · obtain rfl : k = 0 := by omega
          cases hg : (a1 == 0)
          · exact nil_used a1 w hg
          · exact nil_fresh a1 w hg
        · cases hg : (a1 == 0)
          · exact rec_used x len0 cap0 k z0 a1 w hn (by omega) hg (by omega) hc
          · exact rec_fresh x len0 cap0 k z0 a1 w hn (by omega) hg (by omega) hc
  · exact beyond a0 len0 cap0 a1 a2 w (by omega)

/-! ### THE ROW's STEP (the shell's) -/
set_option maxRecDepth 100000 in
theorem lifted (os : Os) (started : os.Started) (H : Type) (enc : TypeId × Value → H) :
    ReturnsInHanded {} Trym.checked os 4 .any (Rows.fnFramedLenSplitAtAnyCutSpec.pre6 enc Trym.prog Trym.f4 Rows.fnFramedLenSplitAtAnyCutRow.domain false) (Rows.fnFramedLenSplitAtAnyCutSpec.post enc Trym.prog Trym.f4 false true false false) := by
  refine returnsInHanded_of_change (C := Trym.checked) own started (by kernel_rfl) Trym.func4
    (ChangeSpec.witness6 (enc := enc) (C := Trym.checked) false ⟨#[], #[.slice none 0 0, .int .u32 0, .int .i64 0], []⟩ 8 (by kernel_rfl) (by kernel_rfl) (by kernel_rfl) (by kernel_rfl)) ?_
  intro W base args ds gs before hval0 hW hcnd _
  have hval : ∀ (j : Nat) t v, Trym.f4.params[j]? = some t → args[j]? = some v → Value.okWide Trym.prog W .any base t v := hval0
  have hW' := hW
  obtain ⟨p, q, hA0, hV, rfl, hfz, hnd⟩ := hW
  have hA : DataW.TrodAll enc Trym.prog W 0 (fun _ => true) true Trym.f4.params.toList args.toList ds p := hA0
  rw [Trym.params4] at hA hval
  obtain ⟨v0, vs0, d0, ds0, p0, q0, hargs, rfl, rfl, h0, r0⟩ := trodAll_cons hA
  obtain ⟨v1, vs1, d1, ds1, p1, q1, rfl, rfl, rfl, h1, r1⟩ := trodAll_cons r0
  obtain ⟨v2, vs2, d2, ds2, p2, q2, rfl, rfl, rfl, h2, r2⟩ := trodAll_cons r1
  obtain ⟨rfl, rfl, rfl⟩ := trodAll_nil r2
  obtain rfl : args = #[v0, v1, v2] := by cases args; simp_all
  obtain ⟨rfl, rfl⟩ := trodVars_none hV
  obtain ⟨a0, len0, cap0, rfl⟩ := okWide_slice Trym.underlying22 (hval 0 22 v0 rfl rfl)
  have k0 := h0
  have lt0 : ∀ x ∈ p0, x.block < W.heap.size := by obtain ⟨m, hm⟩ := k0; exact DataW.trod_lt m _ _ _ hm
  obtain ⟨z0, w0⟩ : ∃ zs, IsRow .u8 W a0 len0 cap0 zs := by
    obtain ⟨fuel, hf⟩ := h0
    rcases open_ints Trym.underlying22 Trym.underlying5 (by kernel_rfl) hf with ⟨hcs, _⟩ | ⟨x, l, c, zs, hcs, _, hl, hm, hz, _, hcell, hwz⟩
    · simp [Value.cells] at hcs
      obtain ⟨rfl, rfl, rfl⟩ := hcs
      exact ⟨[], .inl ⟨rfl, rfl, rfl, rfl⟩⟩
    · simp [Value.cells] at hcs
      obtain ⟨rfl, rfl, rfl⟩ := hcs
      exact ⟨zs, .inr ⟨_, rfl, hl, hm, by simpa using hz, hcell, hwz⟩⟩
  obtain ⟨a1, rfl, rfl, rfl, w1⟩ := open_int Trym.underlying23 (hval 1 23 v1 rfl rfl) h1
  obtain ⟨a2, rfl, rfl, rfl, w2⟩ := open_int Trym.underlying3 (hval 2 3 v2 rfl rfl) h2
  clear hA0 hval0
  refine (walk a0 len0 cap0 z0 a1 a2 W w0 w1 w2).mono fun e W' ⟨he, bel⟩ => ?_
  subst he
  exact ⟨_, rfl, _, _, _, [], _, [], hW', trodAll_mk1 (shut_bool Trym.underlying4 _), (trodAll_cons_mk (Below.trod laidOut (by kernel_rfl) (of_decide_eq_true (by kernel_rfl)) k0 bel lt0) (trodAll_cons_mk (shut_int Trym.underlying23 w1) (trodAll_cons_mk (shut_int Trym.underlying3 w2) trodAll_mk0))), rfl, bel.frame _, fun h => by cases h⟩

theorem over : Rows.fnFramedLenSplitAtAnyCutRow.holds Trym.pinned (OpenSpec.ofChange Rows.fnFramedLenSplitAtAnyCutSpec) :=
  OpenClaim.holds_of_wide 4 Trym.f4 rfl rfl rfl rfl rfl rfl rfl ⟨rfl, rfl, rfl, rfl, rfl⟩ rfl rfl rfl rfl rfl (by kernel_rfl) Trym.func4 (by kernel_rfl)
    (of_decide_eq_true (by kernel_rfl)) (by unfold Func.isWrapper; first | (rw [if_pos (by decide +kernel)]; kernel_rfl) | (rw [if_neg (by decide +kernel)]; exact ⟨rfl, rfl⟩))
    (fun os started H enc _ => lifted os started H enc)

end Go.Proofs.Qxb6617916aMods.fnFramedLenSplitAtAnyCut

namespace Go.Proofs.Qxb6617916aMods
/-- THE STATEMENT -/
theorem fnFramedLenSplitAtAnyCut_proved : Rows.FnFramedLenSplitAtAnyCutSaid := fnFramedLenSplitAtAnyCut.over
end Go.Proofs.Qxb6617916aMods
