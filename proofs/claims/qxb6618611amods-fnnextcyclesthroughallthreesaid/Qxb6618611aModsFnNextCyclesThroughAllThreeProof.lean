/-
  THE PROOF OF 'Rows.FnNextCyclesThroughAllThreeSaid': the frame is the shell that came with the seat (proof-skeleton.mjs); the walks are ours.
-/
import Derived.Test.Qxb6618611aModsRows
import Derived.WalkKit
import Derived.ProofKit
import Derived.OpenShut
import Derived.ShutString
import Derived.Test.Qxb6618611aModsCallees
import Derived.Deep.RegionWith
namespace Go.Proofs.Qxb6618611aMods.fnNextCyclesThroughAllThree
open Go.ChangeShapes Go.WideShapes Go.ChangeAt Go.RowKit
open Go.ChangeMaps (open_string shut_string)
set_option linter.unusedVariables false      -- a walk need not use every 'w<i>' (that an integer argument fits its kind)

theorem own : ownKnob Trym.prog.godebug = none := by kernel_rfl

/-! ### STEP 1: THE WALKS: the Go text returns true; nothing is made or written -/
/-- Roles whose current estimator would be 3: nothing is asked. -/
theorem at_three (r : Int) (h : bits .and .u64 r 3 = 3) (w : World) :
    Calls Trym.prog 3 #[.int .u64 r] w fun e w' => e = .returned (.bool true) ∧ Grown w w' := by
  go_enter Trym.func3, Trym.ntmps3
  go_wp2
  go_ret
  exact ⟨rfl, Grown.refl _⟩

/-- Roles whose current estimator is c: then n0, n1, c follow. -/
theorem at_bits (r q s1 s2 c n0 n1 : Int) (h1 : bits .and .u64 r 3 = c) (h2 : bits .andNot .u64 r 3 = q) (h20 : bits .and .u64 q 3 = 0)
    (h3 : bits .or .u64 q n0 = s1) (h4 : bits .and .u64 s1 3 = n0) (h5 : bits .or .u64 q n1 = s2) (h6 : bits .and .u64 s2 3 = n1)
    (hc : (c = 0 ∧ n0 = 1 ∧ n1 = 2) ∨ (c = 1 ∧ n0 = 2 ∧ n1 = 0) ∨ (c = 2 ∧ n0 = 0 ∧ n1 = 1)) (w : World) :
    Calls Trym.prog 3 #[.int .u64 r] w fun e w' => e = .returned (.bool true) ∧ Grown w w' := by
  rcases hc with ⟨rfl, rfl, rfl⟩ | ⟨rfl, rfl, rfl⟩ | ⟨rfl, rfl, rfl⟩
  all_goals
    go_enter Trym.func3, Trym.ntmps3
    go_wp2_with (first
      | (go_at_call_of 6 r; refine (next_any _ _ h1 (by omega) (by omega) _).mono ?_; rintro e w' ⟨rfl, rfl⟩)
      | (go_at_call_of 6 s1; refine (next_any _ _ h4 (by omega) (by omega) _).mono ?_; rintro e w' ⟨rfl, rfl⟩)
      | (go_at_call_of 6 s2; refine (next_any _ _ h6 (by omega) (by omega) _).mono ?_; rintro e w' ⟨rfl, rfl⟩)
      | (go_at_call_of 6 q; refine (next_any _ _ h20 (by omega) (by omega) _).mono ?_; rintro e w' ⟨rfl, rfl⟩))
    go_ret
    exact ⟨rfl, Grown.refl _⟩

theorem walk (a0 : Int) (w0 : (Lit.int .u64 a0).wf = true) (w : World) :
    Calls Trym.prog 3 #[.int .u64 a0] w fun e w' => e = .returned (.bool true) ∧ Grown w w' := by
  have b0 := bounds_u64 w0
  obtain ⟨q, h2, h20, hs⟩ := high_bits a0 (by omega) (by omega)
  obtain ⟨s0, e0, g0⟩ := hs 0 (by omega) (by omega)
  obtain ⟨s1, e1, g1⟩ := hs 1 (by omega) (by omega)
  obtain ⟨s2, e2, g2⟩ := hs 2 (by omega) (by omega)
  rcases low_bits a0 (by omega) (by omega) with h1 | h1 | h1 | h1
  · exact at_bits a0 q s1 s2 0 1 2 h1 h2 h20 e1 g1 e2 g2 (.inl ⟨rfl, rfl, rfl⟩) w
  · exact at_bits a0 q s2 s0 1 2 0 h1 h2 h20 e2 g2 e0 g0 (.inr (.inl ⟨rfl, rfl, rfl⟩)) w
  · exact at_bits a0 q s0 s1 2 0 1 h1 h2 h20 e0 g0 e1 g1 (.inr (.inr ⟨rfl, rfl, rfl⟩)) w
  · exact at_three a0 h1 w

/-! ### THE ROW's STEP (the shell's) -/
set_option maxRecDepth 100000 in
theorem lifted (os : Os) (started : os.Started) (H : Type) (enc : TypeId × Value → H) :
    ReturnsInHanded {} Trym.checked os 3 .any (Rows.fnNextCyclesThroughAllThreeSpec.pre6 enc Trym.prog Trym.f3 Rows.fnNextCyclesThroughAllThreeRow.domain false) (Rows.fnNextCyclesThroughAllThreeSpec.post enc Trym.prog Trym.f3 false true false false) := by
  refine returnsInHanded_of_change (C := Trym.checked) own started (by kernel_rfl) Trym.func3
    (ChangeSpec.witness6 (enc := enc) (C := Trym.checked) false ⟨#[], #[.int .u64 0], []⟩ 8 (by kernel_rfl) (by kernel_rfl) (by kernel_rfl) (by kernel_rfl)) ?_
  intro W base args ds gs before hval0 hW hcnd _
  have hval : ∀ (j : Nat) t v, Trym.f3.params[j]? = some t → args[j]? = some v → Value.okWide Trym.prog W .any base t v := hval0
  have hW' := hW
  obtain ⟨p, q, hA0, hV, rfl, hfz, hnd⟩ := hW
  have hA : DataW.TrodAll enc Trym.prog W 0 (fun _ => true) true Trym.f3.params.toList args.toList ds p := hA0
  rw [Trym.params3] at hA hval
  obtain ⟨v0, vs0, d0, ds0, p0, q0, hargs, rfl, rfl, h0, r0⟩ := trodAll_cons hA
  obtain ⟨rfl, rfl, rfl⟩ := trodAll_nil r0
  obtain rfl : args = #[v0] := by cases args; simp_all
  obtain ⟨rfl, rfl⟩ := trodVars_none hV
  obtain ⟨a0, rfl, rfl, rfl, w0⟩ := open_int Trym.underlying22 (hval 0 22 v0 rfl rfl) h0
  clear hA0 hval0
  simp only [List.append_nil] at hW'
  refine (walk a0 w0 W).mono fun e W' ⟨he, hg⟩ => ?_
  subst he
  exact ⟨_, rfl, post_of_same (pa := []) (pv := []) hW' (fun _ _ _ => (trodAll_cons_mk (shut_bool Trym.underlying4 _) trodAll_mk0)) (fun sp _ => (trodAll_cons_mk (shut_int Trym.underlying22 w0) trodAll_mk0)) (fun _ _ => rfl) rfl
    (hg.frame _) hg.2.1 (ok_one (by kernel_rfl) rfl (okWide_bool_mk Trym.underlying4 _))⟩

theorem over : Rows.fnNextCyclesThroughAllThreeRow.holds Trym.pinned (OpenSpec.ofChange Rows.fnNextCyclesThroughAllThreeSpec) :=
  OpenClaim.holds_of_wide 3 Trym.f3 rfl rfl rfl rfl rfl rfl rfl ⟨rfl, rfl, rfl, rfl, rfl⟩ rfl rfl rfl rfl rfl (by kernel_rfl) Trym.func3 (by kernel_rfl)
    (of_decide_eq_true (by kernel_rfl)) (by unfold Func.isWrapper; first | (rw [if_pos (by decide +kernel)]; kernel_rfl) | (rw [if_neg (by decide +kernel)]; exact ⟨rfl, rfl⟩))
    (fun os started H enc _ => lifted os started H enc)

end Go.Proofs.Qxb6618611aMods.fnNextCyclesThroughAllThree

namespace Go.Proofs.Qxb6618611aMods
/-- THE STATEMENT -/
theorem fnNextCyclesThroughAllThree_proved : Rows.FnNextCyclesThroughAllThreeSaid := fnNextCyclesThroughAllThree.over
end Go.Proofs.Qxb6618611aMods
