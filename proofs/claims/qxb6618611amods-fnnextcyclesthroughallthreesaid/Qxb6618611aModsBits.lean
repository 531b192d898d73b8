/-
  THE PLAIN LAWS on the low two bits of a uint64: no program in sight.
-/
import Derived.Laws.BitsAllLaws
namespace Go.Proofs.Qxb6618611aMods

/-- The low two bits are one of four numbers. -/
theorem low_bits (r : Int) (h0 : 0 ≤ r) (h1 : r < 18446744073709551616) :
    bits .and .u64 r 3 = 0 ∨ bits .and .u64 r 3 = 1 ∨ bits .and .u64 r 3 = 2 ∨ bits .and .u64 r 3 = 3 := by
  obtain ⟨A, rfl⟩ := Int.eq_ofNat_of_zero_le h0
  have e : bits .and .u64 (A : Int) 3 = ((A % 4 : Nat) : Int) := by
    have h := u64_and_nat A 3 (by omega) (by omega)
    rw [show A &&& 3 = A % 4 from Nat.and_two_pow_sub_one_eq_mod A 2] at h
    exact h
  rw [e]
  omega

/-- What is left when the low two bits are cleared; and what a new number in their place reads as. -/
theorem high_bits (h : Int) (h0 : 0 ≤ h) (h1 : h < 18446744073709551616) :
    ∃ q : Int, bits .andNot .u64 h 3 = q ∧ bits .and .u64 q 3 = 0 ∧ ∀ c : Int, 0 ≤ c → c ≤ 3 → ∃ s : Int, bits .or .u64 q c = s ∧ bits .and .u64 s 3 = c := by
  obtain ⟨A, rfl⟩ := Int.eq_ofNat_of_zero_le h0
  have hq : A &&& (18446744073709551615 - 3) < 18446744073709551616 := Nat.and_lt_two_pow (n := 64) _ (by omega)
  have hm : (A &&& (18446744073709551615 - 3)) % 2 ^ 2 = 0 := by
    rw [Nat.and_mod_two_pow]
    show A % 2 ^ 2 &&& 0 = 0
    exact Nat.and_zero _
  have e := u64_andNot_nat A 3 (by omega) (by omega)
  generalize A &&& (18446744073709551615 - 3) = Q at hq hm e
  have low : ∀ s : Nat, s < 18446744073709551616 → bits .and .u64 (s : Int) 3 = ((s % 4 : Nat) : Int) := by
    intro s hs
    have h := u64_and_nat s 3 hs (by omega)
    rw [show s &&& 3 = s % 4 from Nat.and_two_pow_sub_one_eq_mod s 2] at h
    exact h
  refine ⟨(Q : Int), e, ?_, ?_⟩
  · rw [low Q hq]
    omega
  · intro c hc0 hc3
    obtain ⟨C, rfl⟩ := Int.eq_ofNat_of_zero_le hc0
    have hor := u64_or_nat Q C hq (by omega)
    rw [nat_join 2 Q C hm (by omega)] at hor
    refine ⟨((Q + C : Nat) : Int), hor, ?_⟩
    rw [low (Q + C) (by omega)]
    omega
end Go.Proofs.Qxb6618611aMods
