/-
  THE PROOF OF 'Rows.FnEndsWithCountsRoleSaid': the frame after the kit's shells for slices of integers, the slice of strings by 'open_strings'; the walks are ours.
-/
import Derived.Test.Qxb6605701aModsOpen
import Derived.ShutString
namespace Go.Proofs.Qxb6605701aMods.fnEndsWithCountsRole
open Go.ChangeShapes Go.WideShapes Go.ChangeAt Go.RowKit
open Go.ChangeMaps (open_string shut_string)

theorem own : ownKnob Trym.prog.godebug = none := by kernel_rfl
theorem laidOut : laidOutB Trym.prog = true := by kernel_rfl

/-! ### STEP 1: THE WALKS: the Go text returns true and writes nothing that was there -/
/-- Too long: nothing is asked. -/
theorem beyond (a : Option Addr) (len cap : Nat) (ss : List ByteArray) (t : ByteArray) (w : World) (hs : Strs w a len ss) (h : 65536 < len ∨ 65536 < t.size) :
    Calls Trym.prog 4 #[.slice a len cap, .string t] w fun e w' => e = .returned (.bool true) ∧ Below w.heap.size w w' := by
  have hz := zz9_any a len cap ss t w hs
  clear hs
  go_enter Trym.func4, Trym.ntmps4
  go_wp2_with (go_at_call 9; refine hz.mono ?_; rintro e w' ⟨⟨b, rfl⟩, rfl⟩)
  all_goals (go_ret; exact ⟨rfl, Below.refl _ _⟩)

set_option maxHeartbeats 1000000 in
/-- Short enough: three loops: the row is filled with the roles; the turns of role t are counted; each gathering of the first k turns ends with its own last role, and those that end with t are counted. -/
theorem within (a : Option Addr) (len cap : Nat) (ss : List ByteArray) (t : ByteArray) (w : World) (hs : Strs w a len ss) (h0 : len ≤ 65536) (h2 : t.size ≤ 65536) :
    Calls Trym.prog 4 #[.slice a len cap, .string t] w fun e w' => e = .returned (.bool true) ∧ Below w.heap.size w w' := by
  have hz := hide (zz9_any a len cap ss t w hs)
  have hy := hide (bytes_any a len cap ss w h0 hs)
  obtain ⟨W1, hmk, hrow, hbel⟩ := made len (len : Int) rfl (by omega) w
  go_enter Trym.func4, Trym.ntmps4
  go_wp2_with (first
    | (go_at_call 9; refine hz.out.mono ?_; rintro e w' ⟨⟨b, rfl⟩, hw⟩; obtain rfl := hw.symm)
    | (go_at_call 6; refine hy.out.mono ?_; rintro e w' ⟨⟨n, rfl⟩, hw⟩; obtain rfl := hw.symm))
  all_goals try (go_ret; exact ⟨rfl, Below.refl _ _⟩)
  clear hz hy hmk
  go_loopw [6] (fun i wr => ∃ k : Nat, k ≤ len ∧ i = .int .i64 k ∧ Rowed wr w.heap.size len ∧ Filled wr w.heap.size k ss ∧ Below w.heap.size w wr) (fun i _ => len - (intOf i).toNat)
  case atStart => exact ⟨0, Nat.zero_le _, rfl, hrow, fun j hj => by omega, hbel⟩
  case round =>
    obtain ⟨k, hk, rfl, hr, hfl, hb⟩ := hrel
    clear hrow hbel
    by_cases hlt : k < len
    · obtain ⟨b0, off, rfl, hc0⟩ := hs k hlt
      have hc : wr.cell? ⟨b0, off + k, none⟩ = some (.string (ss.getD k ByteArray.empty)) := (hb.cell (World.block_lt_of_cell? _ _ hc0)).trans hc0
      obtain ⟨⟨v, hv⟩, hf⟩ := hr.at k (by omega)
      clear hs hc0
      go_wp2
      go_roundw
      case rel => exact ⟨k + 1, by omega, by go_num, hr.set _ _, hfl.step hr hlt, hb.setCell (Nat.le_refl _) _⟩
      case measure => simp [intOf]; omega
    · have e : len = k := by omega
      subst e
      clear hlt hk
      have hlw : w.heap.size < wr.heap.size := hr.lt
      go_wp2
      go_loop [7, 8] (fun o i => ∃ k : Nat, k ≤ len ∧ i = .int .i64 k ∧ o = .int .i64 (cnt ss t k)) (fun _ i => len - (intOf i).toNat)
      case atStart => exact ⟨0, Nat.zero_le _, rfl, rfl⟩
      case round =>
        obtain ⟨k, hk, rfl, rfl⟩ := hrel
        have hcl := cnt_le ss t k
        by_cases hlt : k < len
        · obtain ⟨b0, off, rfl, hc0⟩ := hs k hlt
          obtain ⟨r, hrr⟩ : ∃ r, r = ss.getD k ByteArray.empty := ⟨_, rfl⟩
          have hc : wr.cell? ⟨b0, off + k, none⟩ = some (.string r) := by
            rw [hrr]
            exact (hb.cell (World.block_lt_of_cell? _ _ hc0)).trans hc0
          clear hs hc0
          cases hq : (r.toList == t.toList)
          · have HC := hide (cnt_miss hrr hq)
            clear hrr
            go_wp2
            go_round
            case rel => exact ⟨k + 1, by omega, by go_num, by rw [HC.out]⟩
            case measure => simp [intOf]; omega
          · have HC := hide (cnt_hit hrr hq)
            clear hrr
            go_wp2
            go_round
            case rel => exact ⟨k + 1, by omega, by go_num, by rw [HC.out]; go_num⟩
            case measure => simp [intOf]; omega
        · have e : len = k := by omega
          subst e
          clear hlt hk
          go_wp2
          go_loopw [9, 10] (fun c i ws => ∃ j : Nat, j ≤ len ∧ i = .int .i64 ((j : Int) + 1) ∧ c = .int .i64 (cnt ss t j) ∧ Rowed ws w.heap.size len ∧ Filled ws w.heap.size len ss ∧ Below w.heap.size w ws) (fun _ i _ => len + 1 - (intOf i).toNat)
          case atStart => exact ⟨0, Nat.zero_le _, rfl, rfl, hr, hfl, hb⟩
          case round =>
            obtain ⟨j, hj, rfl, rfl, hr2, hf2, hb2⟩ := hrel
            have hlw2 : w.heap.size < wr.heap.size := hr2.lt
            clear hr hfl hb hlw
            have hcj := cnt_le ss t j
            by_cases hlt : j < len
            · obtain ⟨b0, off, rfl, hc0⟩ := hs j hlt
              obtain ⟨r, hrr⟩ : ∃ r, r = ss.getD j ByteArray.empty := ⟨_, rfl⟩
              have hc : wr.cell? ⟨b0, off + j, none⟩ = some (.string r) := by
                rw [hrr]
                exact (hb2.cell (World.block_lt_of_cell? _ _ hc0)).trans hc0
              have ht : wr.cell? ⟨w.heap.size, j * 4, none⟩ = some (.string r) := by
                rw [hrr]
                exact hf2 j hlt
              have hb0 : b0 < wr.heap.size := World.block_lt_of_cell? _ _ hc
              clear hs hc0
              cases hq : (r.toList == t.toList)
              · have HC := hide (cnt_miss hrr hq)
                clear hrr
                go_wp2_with (first
                  | (go_at_call 7; refine (newG _ _ _ _).mono ?_; rintro e w' ⟨rfl, rfl⟩)
                  | (go_at_call_of 8 t; refine (ends_some wr.heap.size w.heap.size 0 j _ r _ false _ (by omega) (by simp [go_sem]; rfl) (by simp [go_sem, ht, hlw2]) hq).mono ?_; rintro e w' ⟨rfl, q2, rfl⟩)
                  | (go_at_call_of 8 r; refine (ends_some wr.heap.size w.heap.size 0 j _ r _ true _ (by omega) (by simp [go_sem]; rfl) (by simp [go_sem, ht, hlw2]) (by simp)).mono ?_; rintro e w' ⟨rfl, q1, rfl⟩))
                go_roundw
                case rel => exact ⟨j + 1, by omega, by go_num, by rw [HC.out], hr2.grew _ _, hf2.grew hlw2 _ _, grew hb2 _ _⟩
                case measure => simp [intOf]; omega
              · have HC := hide (cnt_hit hrr hq)
                clear hrr
                go_wp2_with (first
                  | (go_at_call 7; refine (newG _ _ _ _).mono ?_; rintro e w' ⟨rfl, rfl⟩)
                  | (go_at_call_of 8 t; refine (ends_some wr.heap.size w.heap.size 0 j _ r _ true _ (by omega) (by simp [go_sem]; rfl) (by simp [go_sem, ht, hlw2]) hq).mono ?_; rintro e w' ⟨rfl, q2, rfl⟩)
                  | (go_at_call_of 8 r; refine (ends_some wr.heap.size w.heap.size 0 j _ r _ true _ (by omega) (by simp [go_sem]; rfl) (by simp [go_sem, ht, hlw2]) (by simp)).mono ?_; rintro e w' ⟨rfl, q1, rfl⟩))
                go_roundw
                case rel => exact ⟨j + 1, by omega, by go_num, by rw [HC.out]; go_num, hr2.grew _ _, hf2.grew hlw2 _ _, grew hb2 _ _⟩
                case measure => simp [intOf]; omega
            · have e : len = j := by omega
              subst e
              clear hlt hj hs
              go_wp2_with (first
                | (go_at_call 7; refine (newG _ _ _ _).mono ?_; rintro e w' ⟨rfl, rfl⟩)
                | (go_at_call 8; refine (ends_none wr.heap.size _ _ _ _ (by simp [go_sem]; exact ⟨rfl, rfl⟩)).mono ?_; rintro e w' ⟨rfl, q1, rfl⟩))
              go_ret
              exact ⟨rfl, grew hb2 _ _⟩
theorem walk (a : Option Addr) (len cap : Nat) (ss : List ByteArray) (t : ByteArray) (w : World) (hs : Strs w a len ss) :
    Calls Trym.prog 4 #[.slice a len cap, .string t] w fun e w' => e = .returned (.bool true) ∧ Below w.heap.size w w' := by
  by_cases h : len ≤ 65536 ∧ t.size ≤ 65536
  · obtain ⟨h0, h2⟩ := h
    exact within a len cap ss t w hs h0 h2
  · exact beyond a len cap ss t w hs (by omega)

/-! ### THE ROW's STEP -/
set_option maxRecDepth 100000 in
theorem lifted (os : Os) (started : os.Started) (H : Type) (enc : TypeId × Value → H) :
    ReturnsInHanded {} Trym.checked os 4 .any (Rows.fnEndsWithCountsRoleSpec.pre6 enc Trym.prog Trym.f4 Rows.fnEndsWithCountsRoleRow.domain false) (Rows.fnEndsWithCountsRoleSpec.post enc Trym.prog Trym.f4 false true false false) := by
  refine returnsInHanded_of_change (C := Trym.checked) own started (by kernel_rfl) Trym.func4
    (ChangeSpec.witness6 (enc := enc) (C := Trym.checked) false ⟨#[], #[.slice none 0 0, .string ByteArray.empty], []⟩ 8 (by kernel_rfl) (by kernel_rfl) (by kernel_rfl) (by kernel_rfl)) ?_
  intro W base args ds gs before hval0 hW hcnd _
  have hval : ∀ (j : Nat) t v, Trym.f4.params[j]? = some t → args[j]? = some v → Value.okWide Trym.prog W .any base t v := hval0
  have hW' := hW
  obtain ⟨p, q, hA0, hV, rfl, hfz, hnd⟩ := hW
  have hA : DataW.TrodAll enc Trym.prog W 0 (fun _ => true) true Trym.f4.params.toList args.toList ds p := hA0
  rw [Trym.params4] at hA hval
  obtain ⟨v0, vs0, d0, ds0, p0, q0, hargs, rfl, rfl, h0, r0⟩ := trodAll_cons hA
  obtain ⟨v1, vs1, d1, ds1, p1, q1, rfl, rfl, rfl, h1, r1⟩ := trodAll_cons r0
  obtain ⟨rfl, rfl, rfl⟩ := trodAll_nil r1
  obtain rfl : args = #[v0, v1] := by cases args; simp_all
  obtain ⟨rfl, rfl⟩ := trodVars_none hV
  obtain ⟨a0, len0, cap0, rfl⟩ := okWide_slice Trym.underlying22 (hval 0 22 v0 rfl rfl)
  have k0 := h0
  have lt0 : ∀ x ∈ p0, x.block < W.heap.size := by obtain ⟨m, hm⟩ := k0; exact DataW.trod_lt m _ _ _ hm
  obtain ⟨z0, w0⟩ : ∃ ss, Strs W a0 len0 ss := by
    obtain ⟨fuel, hf⟩ := h0
    exact strs_of (by simpa [Value.cells] using hf)
  obtain ⟨a1, rfl, rfl, rfl, w1⟩ := open_string Trym.underlying9 (hval 1 9 v1 rfl rfl) h1
  clear hA0 hval0
  refine (walk a0 len0 cap0 z0 a1 W w0).mono fun e W' ⟨he, bel⟩ => ?_
  subst he
  exact ⟨_, rfl, _, _, _, [], _, [], hW', trodAll_mk1 (shut_bool Trym.underlying4 _), (trodAll_cons_mk (Below.trod laidOut (by kernel_rfl) (of_decide_eq_true (by kernel_rfl)) k0 bel lt0) (trodAll_cons_mk (shut_string Trym.underlying9 w1) trodAll_mk0)), rfl, bel.frame _, fun h => by cases h⟩

theorem over : Rows.fnEndsWithCountsRoleRow.holds Trym.pinned (OpenSpec.ofChange Rows.fnEndsWithCountsRoleSpec) :=
  OpenClaim.holds_of_wide 4 Trym.f4 rfl rfl rfl rfl rfl rfl rfl ⟨rfl, rfl, rfl, rfl, rfl⟩ rfl rfl rfl rfl rfl (by kernel_rfl) Trym.func4 (by kernel_rfl)
    (of_decide_eq_true (by kernel_rfl)) (by unfold Func.isWrapper; first | (rw [if_pos (by decide +kernel)]; kernel_rfl) | (rw [if_neg (by decide +kernel)]; exact ⟨rfl, rfl⟩))
    (fun os started H enc _ => lifted os started H enc)

end Go.Proofs.Qxb6605701aMods.fnEndsWithCountsRole

namespace Go.Proofs.Qxb6605701aMods
/-- THE STATEMENT -/
theorem fnEndsWithCountsRole_proved : Rows.FnEndsWithCountsRoleSaid := fnEndsWithCountsRole.over
end Go.Proofs.Qxb6605701aMods
