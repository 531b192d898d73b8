/-
  THE PROOF OF 'Rows.FnEndsWithAfterAppendSaid': the frame after the kit's shells for slices of integers, the slice of strings by 'open_strings'; the walks are ours.
-/
import Derived.Test.Qxb6605701aModsOpen
import Derived.ShutString
namespace Go.Proofs.Qxb6605701aMods.fnEndsWithAfterAppend
open Go.ChangeShapes Go.WideShapes Go.ChangeAt Go.RowKit
open Go.ChangeMaps (open_string shut_string)

theorem own : ownKnob Trym.prog.godebug = none := by kernel_rfl
theorem laidOut : laidOutB Trym.prog = true := by kernel_rfl

/-! ### STEP 1: THE WALKS: the Go text returns true and writes nothing that was there -/
/-- Too long: nothing is asked. -/
theorem beyond (a : Option Addr) (len cap : Nat) (ss : List ByteArray) (s t : ByteArray) (w : World) (hs : Strs w a len ss) (h : 65536 < len ∨ 65536 < s.size ∨ 65536 < t.size) :
    Calls Trym.prog 3 #[.slice a len cap, .string s, .string t] w fun e w' => e = .returned (.bool true) ∧ Below w.heap.size w w' := by
  have hz := zz5_any a len cap ss s t w hs
  clear hs
  go_enter Trym.func3, Trym.ntmps3
  go_wp2_with (go_at_call 5; refine hz.mono ?_; rintro e w' ⟨⟨b, rfl⟩, rfl⟩)
  all_goals (go_ret; exact ⟨rfl, Below.refl _ _⟩)

/-- Short enough: the whole way. -/
theorem within (a : Option Addr) (len cap : Nat) (ss : List ByteArray) (s t : ByteArray) (w : World) (hs : Strs w a len ss) (h0 : len ≤ 65536) (h1 : s.size ≤ 65536) (h2 : t.size ≤ 65536)
    (q : Bool) (hq : (s.toList == t.toList) = q) (hq' : (t.toList == s.toList) = q) :
    Calls Trym.prog 3 #[.slice a len cap, .string s, .string t] w fun e w' => e = .returned (.bool true) ∧ Below w.heap.size w w' := by
  have hz := hide (zz5_any a len cap ss s t w hs)
  have hy := hide (bytes_any a len cap ss w h0 hs)
  obtain ⟨W1, hmk, hrow, hbel⟩ := made (len + 1) ((len : Int) + 1) (by omega) (by omega) w
  go_enter Trym.func3, Trym.ntmps3
  go_wp2_with (first
    | (go_at_call 5; refine hz.out.mono ?_; rintro e w' ⟨⟨b, rfl⟩, hw⟩; obtain rfl := hw.symm)
    | (go_at_call 6; refine hy.out.mono ?_; rintro e w' ⟨⟨n, rfl⟩, hw⟩; obtain rfl := hw.symm))
  all_goals try (go_ret; exact ⟨rfl, Below.refl _ _⟩)
  clear hz hy hmk
  go_loopw [8] (fun i wr => ∃ k : Nat, k ≤ len ∧ i = .int .i64 k ∧ Rowed wr w.heap.size (len + 1) ∧ Below w.heap.size w wr) (fun i _ => len - (intOf i).toNat)
  case atStart => exact ⟨0, Nat.zero_le _, rfl, hrow, hbel⟩
  case round =>
    obtain ⟨k, hk, rfl, hr, hb⟩ := hrel
    clear hrow hbel
    by_cases hlt : k < len
    · obtain ⟨b0, off, rfl, hc0⟩ := hs k hlt
      have hc : wr.cell? ⟨b0, off + k, none⟩ = some (.string (ss.getD k ByteArray.empty)) := (hb.cell (World.block_lt_of_cell? _ _ hc0)).trans hc0
      obtain ⟨⟨v, hv⟩, hf⟩ := hr.at k (by omega)
      clear hs hc0
      go_wp2
      go_roundw
      case rel => exact ⟨k + 1, by omega, by go_num, hr.set _ _, hb.setCell (Nat.le_refl _) _⟩
      case measure => simp [intOf]; omega
    · obtain rfl : k = len := by omega
      obtain ⟨⟨v, hv⟩, hf⟩ := hr.at k (by omega)
      have hlw : w.heap.size < wr.heap.size := hr.lt
      clear hs
      go_wp2_with (first
        | (go_at_call 7; refine (newG _ _ _ _).mono ?_; rintro e w' ⟨rfl, rfl⟩)
        | (go_at_call_of 8 s; refine (ends_some _ w.heap.size 0 k _ s _ true _ (by omega) (by simp [go_sem]; rfl) (by simp [go_sem, hv, hlw]) (by simp)).mono ?_; rintro e w' ⟨rfl, q1, rfl⟩)
        | (go_at_call_of 8 t; refine (ends_some wr.heap.size w.heap.size 0 k _ s _ q _ (by omega) (by simp [go_sem]; rfl) (by simp [go_sem, hv, hlw]) hq).mono ?_; rintro e w' ⟨rfl, q2, rfl⟩)
        | (go_at_call_of 8 t; refine (ends_none _ none 0 _ _ (by simp [go_sem])).mono ?_; rintro e w' ⟨rfl, q3, rfl⟩))
      go_ret
      exact ⟨rfl, grew (grew (hb.setCell (Nat.le_refl _) _) _ _) _ _⟩
theorem walk (a : Option Addr) (len cap : Nat) (ss : List ByteArray) (s t : ByteArray) (w : World) (hs : Strs w a len ss) :
    Calls Trym.prog 3 #[.slice a len cap, .string s, .string t] w fun e w' => e = .returned (.bool true) ∧ Below w.heap.size w w' := by
  by_cases h : len ≤ 65536 ∧ s.size ≤ 65536 ∧ t.size ≤ 65536
  · obtain ⟨h0, h1, h2⟩ := h
    exact within a len cap ss s t w hs h0 h1 h2 _ rfl (BEq.comm)
  · exact beyond a len cap ss s t w hs (by omega)

/-! ### THE ROW's STEP -/
set_option maxRecDepth 100000 in
theorem lifted (os : Os) (started : os.Started) (H : Type) (enc : TypeId × Value → H) :
    ReturnsInHanded {} Trym.checked os 3 .any (Rows.fnEndsWithAfterAppendSpec.pre6 enc Trym.prog Trym.f3 Rows.fnEndsWithAfterAppendRow.domain false) (Rows.fnEndsWithAfterAppendSpec.post enc Trym.prog Trym.f3 false true false false) := by
  refine returnsInHanded_of_change (C := Trym.checked) own started (by kernel_rfl) Trym.func3
    (ChangeSpec.witness6 (enc := enc) (C := Trym.checked) false ⟨#[], #[.slice none 0 0, .string ByteArray.empty, .string ByteArray.empty], []⟩ 8 (by kernel_rfl) (by kernel_rfl) (by kernel_rfl) (by kernel_rfl)) ?_
  intro W base args ds gs before hval0 hW hcnd _
  have hval : ∀ (j : Nat) t v, Trym.f3.params[j]? = some t → args[j]? = some v → Value.okWide Trym.prog W .any base t v := hval0
  have hW' := hW
  obtain ⟨p, q, hA0, hV, rfl, hfz, hnd⟩ := hW
  have hA : DataW.TrodAll enc Trym.prog W 0 (fun _ => true) true Trym.f3.params.toList args.toList ds p := hA0
  rw [Trym.params3] at hA hval
  obtain ⟨v0, vs0, d0, ds0, p0, q0, hargs, rfl, rfl, h0, r0⟩ := trodAll_cons hA
  obtain ⟨v1, vs1, d1, ds1, p1, q1, rfl, rfl, rfl, h1, r1⟩ := trodAll_cons r0
  obtain ⟨v2, vs2, d2, ds2, p2, q2, rfl, rfl, rfl, h2, r2⟩ := trodAll_cons r1
  obtain ⟨rfl, rfl, rfl⟩ := trodAll_nil r2
  obtain rfl : args = #[v0, v1, v2] := by cases args; simp_all
  obtain ⟨rfl, rfl⟩ := trodVars_none hV
  obtain ⟨a0, len0, cap0, rfl⟩ := okWide_slice Trym.underlying22 (hval 0 22 v0 rfl rfl)
  have k0 := h0
  have lt0 : ∀ x ∈ p0, x.block < W.heap.size := by obtain ⟨m, hm⟩ := k0; exact DataW.trod_lt m _ _ _ hm
  obtain ⟨z0, w0⟩ : ∃ ss, Strs W a0 len0 ss := by
    obtain ⟨fuel, hf⟩ := h0
    exact strs_of (by simpa [Value.cells] using hf)
  obtain ⟨a1, rfl, rfl, rfl, w1⟩ := open_string Trym.underlying9 (hval 1 9 v1 rfl rfl) h1
  obtain ⟨a2, rfl, rfl, rfl, w2⟩ := open_string Trym.underlying9 (hval 2 9 v2 rfl rfl) h2
  clear hA0 hval0
  refine (walk a0 len0 cap0 z0 a1 a2 W w0).mono fun e W' ⟨he, bel⟩ => ?_
  subst he
  exact ⟨_, rfl, _, _, _, [], _, [], hW', trodAll_mk1 (shut_bool Trym.underlying4 _), (trodAll_cons_mk (Below.trod laidOut (by kernel_rfl) (of_decide_eq_true (by kernel_rfl)) k0 bel lt0) (trodAll_cons_mk (shut_string Trym.underlying9 w1) (trodAll_cons_mk (shut_string Trym.underlying9 w2) trodAll_mk0))), rfl, bel.frame _, fun h => by cases h⟩

theorem over : Rows.fnEndsWithAfterAppendRow.holds Trym.pinned (OpenSpec.ofChange Rows.fnEndsWithAfterAppendSpec) :=
  OpenClaim.holds_of_wide 3 Trym.f3 rfl rfl rfl rfl rfl rfl rfl ⟨rfl, rfl, rfl, rfl, rfl⟩ rfl rfl rfl rfl rfl (by kernel_rfl) Trym.func3 (by kernel_rfl)
    (of_decide_eq_true (by kernel_rfl)) (by unfold Func.isWrapper; first | (rw [if_pos (by decide +kernel)]; kernel_rfl) | (rw [if_neg (by decide +kernel)]; exact ⟨rfl, rfl⟩))
    (fun os started H enc _ => lifted os started H enc)

end Go.Proofs.Qxb6605701aMods.fnEndsWithAfterAppend

namespace Go.Proofs.Qxb6605701aMods
/-- THE STATEMENT -/
theorem fnEndsWithAfterAppend_proved : Rows.FnEndsWithAfterAppendSaid := fnEndsWithAfterAppend.over
end Go.Proofs.Qxb6605701aMods
