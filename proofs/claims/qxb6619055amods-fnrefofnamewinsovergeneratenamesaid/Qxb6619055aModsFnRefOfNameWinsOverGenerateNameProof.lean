/-
  THE PROOF OF 'Rows.FnRefOfNameWinsOverGenerateNameSaid': the frame is the shell that came with the seat (proof-skeleton.mjs), its last line turned to 'Below' (the calls lay maps and write them); the walks are ours.
-/
import Derived.Test.Qxb6619055aModsRows
import Derived.WalkKit
import Derived.ProofKit
import Derived.OpenShut
import Derived.ShutString
import Derived.Test.Qxb6619055aModsParts
namespace Go.Proofs.Qxb6619055aMods.fnRefOfNameWinsOverGenerateName
open Go.ChangeShapes Go.WideShapes Go.ChangeAt Go.RowKit
open Go.ChangeMaps (open_string shut_string)
set_option linter.unusedVariables false      -- a walk need not use every 'w<i>' (that an integer argument fits its kind)

theorem own : ownKnob Trym.prog.godebug = none := by kernel_rfl

/-! ### STEP 1: THE WALKS: the Go text returns true and writes nothing that was there -/
/-- The bound on the total length, whatever it says. -/
theorem zz_any (a0 a1 a2 a3 : ByteArray) (w : World) :
    Calls Trym.prog 7 #[.string a0, .string a1, .string a2, .string a3] w fun e w' => (∃ b, e = .returned (.bool b)) ∧ w' = w := by
  go_enter Trym.func7, Trym.ntmps7
  go_wp2
  all_goals (go_ret; exact ⟨⟨_, rfl⟩, rfl⟩)

theorem zz_yes (a0 a1 a2 a3 : ByteArray) (w : World) (h0 : a0.size ≤ 262144) (h1 : a1.size ≤ 262144) (h2 : a2.size ≤ 262144) (h3 : a3.size ≤ 262144) :
    Calls Trym.prog 7 #[.string a0, .string a1, .string a2, .string a3] w fun e w' => e = .returned (.bool true) ∧ w' = w := by
  go_enter Trym.func7, Trym.ntmps7
  go_wp2
  all_goals (go_ret; exact ⟨rfl, rfl⟩)

/-- A string that is too long: nothing is asked. -/
theorem beyond (a0 a1 a2 a3 : ByteArray) (w : World) (h : 262144 < a0.size ∨ 262144 < a1.size ∨ 262144 < a2.size ∨ 262144 < a3.size) :
    Calls Trym.prog 3 #[.string a0, .string a1, .string a2, .string a3] w fun e w' => e = .returned (.bool true) ∧ Below w.heap.size w w' := by
  go_enter Trym.func3, Trym.ntmps3
  go_wp2_with (go_at_call 7; refine (zz_any _ _ _ _ _).mono ?_; rintro e w' ⟨⟨b, rfl⟩, rfl⟩)
  all_goals (go_ret; exact ⟨rfl, Below.refl _ _⟩)

/-- A name that is not empty. -/
theorem named (a0 a1 a2 a3 : ByteArray) (w : World) (h0 : a0.size ≤ 262144) (h1 : a1.size ≤ 262144) (h2 : a2.size ≤ 262144) (h3 : a3.size ≤ 262144) (he : a1.toList.isEmpty = false) :
    Calls Trym.prog 3 #[.string a0, .string a1, .string a2, .string a3] w fun e w' => e = .returned (.bool true) ∧ Below w.heap.size w w' := by
  go_enter Trym.func3, Trym.ntmps3
  go_wp2_with (first
    | (go_at_call 7; refine (zz_yes _ _ _ _ _ h0 h1 h2 h3).mono ?_; rintro e w' ⟨rfl, rfl⟩)
    | (go_at_call_of 8 a2; refine (named_yes _ _ _ _ he).mono ?_; rintro e w1 ⟨rfl, hb1⟩)
    | (go_at_call_of 8 a3; refine (named_yes _ _ _ _ he).mono ?_; rintro e w2 ⟨rfl, hb2⟩; obtain ⟨q0, q1, qz⟩ := kept hb2))
  go_ret
  exact ⟨rfl, next (next (Below.refl _ _) hb1 _) hb2 _⟩

/-- An empty name. -/
theorem unnamed (a0 a1 a2 a3 : ByteArray) (w : World) (h0 : a0.size ≤ 262144) (h1 : a1.size ≤ 262144) (h2 : a2.size ≤ 262144) (h3 : a3.size ≤ 262144) (he : a1.toList.isEmpty = true) :
    Calls Trym.prog 3 #[.string a0, .string a1, .string a2, .string a3] w fun e w' => e = .returned (.bool true) ∧ Below w.heap.size w w' := by
  go_enter Trym.func3, Trym.ntmps3
  go_wp2_with (first
    | (go_at_call 7; refine (zz_yes _ _ _ _ _ h0 h1 h2 h3).mono ?_; rintro e w' ⟨rfl, rfl⟩)
    | (go_at_call 8; refine (named_no _ _ _ _ he).mono ?_; rintro e w1 ⟨rfl, hb1⟩)
    | (go_at_call 9; refine (gen_only _ _ _).mono ?_; rintro e w2 ⟨rfl, hb2⟩; obtain ⟨q0, q1, qz⟩ := kept hb2))
  go_ret
  exact ⟨rfl, next (next (Below.refl _ _) hb1 _) hb2 _⟩

theorem walk (a0 : ByteArray) (a1 : ByteArray) (a2 : ByteArray) (a3 : ByteArray) (w : World) :
    Calls Trym.prog 3 #[.string a0, .string a1, .string a2, .string a3] w fun e w' => e = .returned (.bool true) ∧ Below w.heap.size w w' := by
  by_cases h : a0.size ≤ 262144 ∧ a1.size ≤ 262144 ∧ a2.size ≤ 262144 ∧ a3.size ≤ 262144
  · obtain ⟨h0, h1, h2, h3⟩ := h
    cases he : a1.toList.isEmpty
    · exact named a0 a1 a2 a3 w h0 h1 h2 h3 he
    · exact unnamed a0 a1 a2 a3 w h0 h1 h2 h3 he
  · exact beyond a0 a1 a2 a3 w (by omega)

/-! ### THE ROW's STEP (the shell's) -/
set_option maxRecDepth 100000 in
theorem lifted (os : Os) (started : os.Started) (H : Type) (enc : TypeId × Value → H) :
    ReturnsInHanded {} Trym.checked os 3 .any (Rows.fnRefOfNameWinsOverGenerateNameSpec.pre6 enc Trym.prog Trym.f3 Rows.fnRefOfNameWinsOverGenerateNameRow.domain false) (Rows.fnRefOfNameWinsOverGenerateNameSpec.post enc Trym.prog Trym.f3 false true false false) := by
  refine returnsInHanded_of_change (C := Trym.checked) own started (by kernel_rfl) Trym.func3
    (ChangeSpec.witness6 (enc := enc) (C := Trym.checked) false ⟨#[], #[.string ByteArray.empty, .string ByteArray.empty, .string ByteArray.empty, .string ByteArray.empty], []⟩ 8 (by kernel_rfl) (by kernel_rfl) (by kernel_rfl) (by kernel_rfl)) ?_
  intro W base args ds gs before hval0 hW hcnd _
  have hval : ∀ (j : Nat) t v, Trym.f3.params[j]? = some t → args[j]? = some v → Value.okWide Trym.prog W .any base t v := hval0
  have hW' := hW
  obtain ⟨p, q, hA0, hV, rfl, hfz, hnd⟩ := hW
  have hA : DataW.TrodAll enc Trym.prog W 0 (fun _ => true) true Trym.f3.params.toList args.toList ds p := hA0
  rw [Trym.params3] at hA hval
  obtain ⟨v0, vs0, d0, ds0, p0, q0, hargs, rfl, rfl, h0, r0⟩ := trodAll_cons hA
  obtain ⟨v1, vs1, d1, ds1, p1, q1, rfl, rfl, rfl, h1, r1⟩ := trodAll_cons r0
  obtain ⟨v2, vs2, d2, ds2, p2, q2, rfl, rfl, rfl, h2, r2⟩ := trodAll_cons r1
  obtain ⟨v3, vs3, d3, ds3, p3, q3, rfl, rfl, rfl, h3, r3⟩ := trodAll_cons r2
  obtain ⟨rfl, rfl, rfl⟩ := trodAll_nil r3
  obtain rfl : args = #[v0, v1, v2, v3] := by cases args; simp_all
  obtain ⟨rfl, rfl⟩ := trodVars_none hV
  obtain ⟨a0, rfl, rfl, rfl, w0⟩ := open_string Trym.underlying9 (hval 0 9 v0 rfl rfl) h0
  obtain ⟨a1, rfl, rfl, rfl, w1⟩ := open_string Trym.underlying9 (hval 1 9 v1 rfl rfl) h1
  obtain ⟨a2, rfl, rfl, rfl, w2⟩ := open_string Trym.underlying9 (hval 2 9 v2 rfl rfl) h2
  obtain ⟨a3, rfl, rfl, rfl, w3⟩ := open_string Trym.underlying9 (hval 3 9 v3 rfl rfl) h3
  clear hA0 hval0
  simp only [List.append_nil] at hW'
  refine (walk a0 a1 a2 a3 W).mono fun e W' ⟨he, bel⟩ => ?_
  subst he
  exact ⟨_, rfl, _, _, _, [], [], [], hW', trodAll_mk1 (shut_bool Trym.underlying4 _), (trodAll_cons_mk (shut_string Trym.underlying9 w0) (trodAll_cons_mk (shut_string Trym.underlying9 w1) (trodAll_cons_mk (shut_string Trym.underlying9 w2) (trodAll_cons_mk (shut_string Trym.underlying9 w3) trodAll_mk0)))), rfl, bel.frame _, fun h => by cases h⟩

theorem over : Rows.fnRefOfNameWinsOverGenerateNameRow.holds Trym.pinned (OpenSpec.ofChange Rows.fnRefOfNameWinsOverGenerateNameSpec) :=
  OpenClaim.holds_of_wide 3 Trym.f3 rfl rfl rfl rfl rfl rfl rfl ⟨rfl, rfl, rfl, rfl, rfl⟩ rfl rfl rfl rfl rfl (by kernel_rfl) Trym.func3 (by kernel_rfl)
    (of_decide_eq_true (by kernel_rfl)) (by unfold Func.isWrapper; first | (rw [if_pos (by decide +kernel)]; kernel_rfl) | (rw [if_neg (by decide +kernel)]; exact ⟨rfl, rfl⟩))
    (fun os started H enc _ => lifted os started H enc)

end Go.Proofs.Qxb6619055aMods.fnRefOfNameWinsOverGenerateName

namespace Go.Proofs.Qxb6619055aMods
/-- THE STATEMENT -/
theorem fnRefOfNameWinsOverGenerateName_proved : Rows.FnRefOfNameWinsOverGenerateNameSaid := fnRefOfNameWinsOverGenerateName.over
end Go.Proofs.Qxb6619055aMods
