/-
  THE PROOF OF 'Rows.FnRefOfTakesOnlyStringsSaid': the frame after the shells that came with this seat's other statement, the float by 'open_float' and 'shut_float'; the walks are ours.
-/
import Derived.Test.Qxb6619055aModsRows
import Derived.WalkKit
import Derived.ProofKit
import Derived.OpenShut
import Derived.ShutString
import Derived.Laws.Cover2
import Derived.Test.Qxb6619055aModsParts
namespace Go.Proofs.Qxb6619055aMods.fnRefOfTakesOnlyStrings
open Go.ChangeShapes Go.WideShapes Go.ChangeAt Go.RowKit
open Go.ChangeMaps (open_string shut_string)

theorem own : ownKnob Trym.prog.godebug = none := by kernel_rfl

/-! ### STEP 1: THE WALKS: the Go text returns true and writes nothing that was there -/
/-- The bound on the total length, whatever it says. -/
theorem zz_any (a0 a2 : ByteArray) (k : FloatKind) (x : Nat) (w : World) :
    Calls Trym.prog 10 #[.string a0, .float k x, .string a2] w fun e w' => (∃ b, e = .returned (.bool b)) ∧ w' = w := by
  go_enter Trym.func10, Trym.ntmps10
  go_wp2
  all_goals (go_ret; exact ⟨⟨_, rfl⟩, rfl⟩)

theorem zz_yes (a0 a2 : ByteArray) (k : FloatKind) (x : Nat) (w : World) (h0 : a0.size ≤ 262144) (h2 : a2.size ≤ 262144) :
    Calls Trym.prog 10 #[.string a0, .float k x, .string a2] w fun e w' => e = .returned (.bool true) ∧ w' = w := by
  go_enter Trym.func10, Trym.ntmps10
  go_wp2
  all_goals (go_ret; exact ⟨rfl, rfl⟩)

/-- A string that is too long: nothing is asked. -/
theorem beyond (a0 a2 : ByteArray) (k : FloatKind) (x : Nat) (w : World) (h : 262144 < a0.size ∨ 262144 < a2.size) :
    Calls Trym.prog 4 #[.string a0, .float k x, .string a2] w fun e w' => e = .returned (.bool true) ∧ Below w.heap.size w w' := by
  go_enter Trym.func4, Trym.ntmps4
  go_wp2_with (go_at_call 10; refine (zz_any _ _ _ _ _).mono ?_; rintro e w' ⟨⟨b, rfl⟩, rfl⟩)
  all_goals (go_ret; exact ⟨rfl, Below.refl _ _⟩)

/-- A generateName that is not empty. -/
theorem given (a0 a2 : ByteArray) (k : FloatKind) (x : Nat) (w : World) (h0 : a0.size ≤ 262144) (h2 : a2.size ≤ 262144) (he : a2.toList.isEmpty = false) :
    Calls Trym.prog 4 #[.string a0, .float k x, .string a2] w fun e w' => e = .returned (.bool true) ∧ Below w.heap.size w w' := by
  go_enter Trym.func4, Trym.ntmps4
  go_wp2_with (first
    | (go_at_call 10; refine (zz_yes _ _ _ _ _ h0 h2).mono ?_; rintro e w' ⟨rfl, rfl⟩)
    | (go_at_call 11; refine (num_name _ _ _ _ _).mono ?_; rintro e w1 ⟨rfl, hb1⟩)
    | (go_at_call 9; refine (gen_only _ _ _).mono ?_; rintro e w2 ⟨rfl, hb2⟩; obtain ⟨q0, q1, qz⟩ := kept hb2)
    | (go_at_call 12; refine (no_meta _ _).mono ?_; rintro e w3 ⟨rfl, hb3⟩; obtain ⟨r0, r1, rz⟩ := kept hb3; have q0' := kept_more q0 hb3; have q1' := kept_more q1 hb3; clear q0 q1)
    | (go_at_call 13; refine (num_kind_yes _ _ _ _ he).mono ?_; rintro e w4 ⟨rfl, hb4⟩; obtain ⟨s0, s1, sz⟩ := kept hb4; have q0'' := kept_more q0' hb4; have q1'' := kept_more q1' hb4; have r0' := kept_more r0 hb4; have r1' := kept_more r1 hb4; have rz2 := Nat.lt_trans rz sz; have qz2 := Nat.lt_trans qz rz2; clear q0' q1' r0 r1))
  go_ret
  exact ⟨rfl, next (next (next (next (Below.refl _ _) hb1 _) hb2 _) hb3 _) hb4 _⟩

/-- An empty generateName. -/
theorem bare (a0 : ByteArray) (k : FloatKind) (x : Nat) (w : World) (h0 : a0.size ≤ 262144) :
    Calls Trym.prog 4 #[.string a0, .float k x, .string { data := #[] }] w fun e w' => e = .returned (.bool true) ∧ Below w.heap.size w w' := by
  have h2 : ({ data := #[] } : ByteArray).size ≤ 262144 := by decide
  have he := bare_isEmpty
  go_enter Trym.func4, Trym.ntmps4
  go_wp2_with (first
    | (go_at_call 10; refine (zz_yes _ _ _ _ _ h0 h2).mono ?_; rintro e w' ⟨rfl, rfl⟩)
    | (go_at_call 11; refine (num_name _ _ _ _ _).mono ?_; rintro e w1 ⟨rfl, hb1⟩)
    | (go_at_call 9; refine (gen_only _ _ _).mono ?_; rintro e w2 ⟨rfl, hb2⟩; obtain ⟨q0, q1, qz⟩ := kept hb2)
    | (go_at_call 12; refine (no_meta _ _).mono ?_; rintro e w3 ⟨rfl, hb3⟩; obtain ⟨r0, r1, rz⟩ := kept hb3; have q0' := kept_more q0 hb3; have q1' := kept_more q1 hb3; clear q0 q1)
    | (go_at_call 13; refine (num_kind_no _ _ _ _ he).mono ?_; rintro e w4 ⟨rfl, hb4⟩; obtain ⟨s0, s1, sz⟩ := kept hb4; have q0'' := kept_more q0' hb4; have q1'' := kept_more q1' hb4; have r0' := kept_more r0 hb4; have r1' := kept_more r1 hb4; have rz2 := Nat.lt_trans rz sz; have qz2 := Nat.lt_trans qz rz2; clear q0' q1' r0 r1))
  go_ret
  exact ⟨rfl, next (next (next (next (Below.refl _ _) hb1 _) hb2 _) hb3 _) hb4 _⟩

theorem walk (a0 a2 : ByteArray) (k : FloatKind) (x : Nat) (w : World) :
    Calls Trym.prog 4 #[.string a0, .float k x, .string a2] w fun e w' => e = .returned (.bool true) ∧ Below w.heap.size w w' := by
  by_cases h : a0.size ≤ 262144 ∧ a2.size ≤ 262144
  · obtain ⟨h0, h2⟩ := h
    cases he : a2.toList.isEmpty
    · exact given a0 a2 k x w h0 h2 he
    · obtain rfl := of_isEmpty he
      exact bare a0 k x w h0
  · exact beyond a0 a2 k x w (by omega)

/-! ### THE ROW's STEP -/
set_option maxRecDepth 100000 in
theorem lifted (os : Os) (started : os.Started) (H : Type) (enc : TypeId × Value → H) :
    ReturnsInHanded {} Trym.checked os 4 .any (Rows.fnRefOfTakesOnlyStringsSpec.pre6 enc Trym.prog Trym.f4 Rows.fnRefOfTakesOnlyStringsRow.domain false) (Rows.fnRefOfTakesOnlyStringsSpec.post enc Trym.prog Trym.f4 false true false false) := by
  refine returnsInHanded_of_change (C := Trym.checked) own started (by kernel_rfl) Trym.func4
    (ChangeSpec.witness6 (enc := enc) (C := Trym.checked) false ⟨#[], #[.string ByteArray.empty, .float .f64 0, .string ByteArray.empty], []⟩ 8 (by kernel_rfl) (by kernel_rfl) (by kernel_rfl) (by kernel_rfl)) ?_
  intro W base args ds gs before hval0 hW hcnd _
  have hval : ∀ (j : Nat) t v, Trym.f4.params[j]? = some t → args[j]? = some v → Value.okWide Trym.prog W .any base t v := hval0
  have hW' := hW
  obtain ⟨p, q, hA0, hV, rfl, hfz, hnd⟩ := hW
  have hA : DataW.TrodAll enc Trym.prog W 0 (fun _ => true) true Trym.f4.params.toList args.toList ds p := hA0
  rw [Trym.params4] at hA hval
  obtain ⟨v0, vs0, d0, ds0, p0, q0, hargs, rfl, rfl, h0, r0⟩ := trodAll_cons hA
  obtain ⟨v1, vs1, d1, ds1, p1, q1, rfl, rfl, rfl, h1, r1⟩ := trodAll_cons r0
  obtain ⟨v2, vs2, d2, ds2, p2, q2, rfl, rfl, rfl, h2, r2⟩ := trodAll_cons r1
  obtain ⟨rfl, rfl, rfl⟩ := trodAll_nil r2
  obtain rfl : args = #[v0, v1, v2] := by cases args; simp_all
  obtain ⟨rfl, rfl⟩ := trodVars_none hV
  obtain ⟨a0, rfl, rfl, rfl, w0⟩ := open_string Trym.underlying9 (hval 0 9 v0 rfl rfl) h0
  obtain ⟨x1, rfl, rfl, rfl, w1⟩ := open_float Trym.underlying27 (hval 1 27 v1 rfl rfl) h1
  obtain ⟨a2, rfl, rfl, rfl, w2⟩ := open_string Trym.underlying9 (hval 2 9 v2 rfl rfl) h2
  clear hA0 hval0
  simp only [List.append_nil] at hW'
  refine (walk a0 a2 .f64 x1 W).mono fun e W' ⟨he, bel⟩ => ?_
  subst he
  exact ⟨_, rfl, _, _, _, [], [], [], hW', trodAll_mk1 (shut_bool Trym.underlying4 _), (trodAll_cons_mk (shut_string Trym.underlying9 w0) (trodAll_cons_mk (shut_float Trym.underlying27 w1) (trodAll_cons_mk (shut_string Trym.underlying9 w2) trodAll_mk0))), rfl, bel.frame _, fun h => by cases h⟩

theorem over : Rows.fnRefOfTakesOnlyStringsRow.holds Trym.pinned (OpenSpec.ofChange Rows.fnRefOfTakesOnlyStringsSpec) :=
  OpenClaim.holds_of_wide 4 Trym.f4 rfl rfl rfl rfl rfl rfl rfl ⟨rfl, rfl, rfl, rfl, rfl⟩ rfl rfl rfl rfl rfl (by kernel_rfl) Trym.func4 (by kernel_rfl)
    (of_decide_eq_true (by kernel_rfl)) (by unfold Func.isWrapper; first | (rw [if_pos (by decide +kernel)]; kernel_rfl) | (rw [if_neg (by decide +kernel)]; exact ⟨rfl, rfl⟩))
    (fun os started H enc _ => lifted os started H enc)

end Go.Proofs.Qxb6619055aMods.fnRefOfTakesOnlyStrings

namespace Go.Proofs.Qxb6619055aMods
/-- THE STATEMENT -/
theorem fnRefOfTakesOnlyStrings_proved : Rows.FnRefOfTakesOnlyStringsSaid := fnRefOfTakesOnlyStrings.over
end Go.Proofs.Qxb6619055aMods
