/-
  Plain: which word is written "1".
-/
import Derived.Test.Qxb6603897aDoorWhole2
namespace Go.Proofs.Qxb6603897aDoor
open Go.RowKit

theorem one_digit (d : Nat) : 1 ≤ d → strip d (Lib.nDigits d) ≤ 1 → ∃ c j, d = c * 10 ^ j ∧ Lib.nDigits d = j + 1 ∧ 1 ≤ c ∧ c < 10 := by
  induction d using Nat.strongRecOn with
  | _ d ih =>
    intro h1 hs
    by_cases h : d < 10
    · exact ⟨d, 0, by simp, Lib.nDigits_small h, h1, h⟩
    · have hn : Lib.nDigits d = Lib.nDigits (d / 10) + 1 := Lib.nDigits_big h
      have hp := Lib.nDigits_pos (d / 10)
      have h0 : d % 10 = 0 := by
        rcases Nat.eq_zero_or_pos (d % 10) with h | h'
        · exact h
        · exfalso
          have e : dI d (Lib.nDigits (d / 10)) = ((48 + d % 10 : Nat) : Int) := by
            unfold dI
            rw [hn, show Lib.nDigits (d / 10) + 1 - 1 - Lib.nDigits (d / 10) = 0 from by omega, Nat.pow_zero, Nat.div_one]
          rw [hn, strip, e, if_neg (by simp; omega)] at hs
          omega
      obtain ⟨d', rfl⟩ : ∃ d', d = d' * 10 := ⟨d / 10, by omega⟩
      have hd' : 1 ≤ d' := by omega
      rw [strip_all10 d' hd'] at hs
      obtain ⟨c, j, rfl, e2, e3, e4⟩ := ih d' (by omega) hd' hs
      refine ⟨c, j + 1, by rw [Nat.pow_succ, Nat.mul_assoc], ?_, e3, e4⟩
      rw [nDigits_mul10 _ hd', e2]

theorem fin_one (neg : Bool) (d : Nat) (q : Int) (hd : 1 ≤ d) (h : finT neg d q = [49]) : neg = false ∧ ∃ j : Nat, d = 10 ^ j ∧ q = -(j : Int) := by
  have hneg : neg = false := by
    cases neg
    · rfl
    · simp [finT, sgnT] at h
  subst hneg
  refine ⟨rfl, ?_⟩
  have e0 : sgnT false = [] := rfl
  unfold finT at h
  rw [e0, List.nil_append] at h
  by_cases hp : 0 < (Lib.nDigits d : Int) + q
  · unfold intT fracT at h
    rw [if_pos hp] at h
    obtain ⟨k, hk⟩ : ∃ k : Nat, (Lib.nDigits d : Int) + q = k := ⟨_, (Int.toNat_of_nonneg (by omega)).symm⟩
    rw [hk] at h hp
    have hl := congrArg List.length h
    rw [List.length_append, List.length_append, List.length_take, List.length_replicate, Int.toNat_natCast] at hl
    simp only [List.length_singleton] at hl
    have hk1 : k = 1 := by omega
    subst hk1
    have hD : (digs d).length ≤ 1 := by
      rcases Nat.lt_or_ge 1 (digs d).length with hh | hh
      · rw [if_pos (by omega)] at hl
        simp only [List.length_cons] at hl
        omega
      · exact hh
    rw [if_neg (by omega), List.append_nil] at h
    rw [digs_len] at hD
    obtain ⟨c, j, e1, e2, e3, e4⟩ := one_digit d hd hD
    have hc : dI d 0 = 49 := by
      have h0 : (digs d).length = 0 ∨ (digs d).length = 1 := by rw [digs_len]; omega
      rcases h0 with h0 | h0
      · rw [List.eq_nil_of_length_eq_zero h0] at h
        simp at h
      · have e : digs d = [dI d 0] := by
          rw [digs_len] at h0
          unfold digs
          rw [h0]
          rfl
        rw [e] at h
        simpa using h
    have hcc : c = 1 := by
      unfold dI at hc
      rw [e2, show j + 1 - 1 - 0 = j from by omega, e1, Nat.mul_div_cancel _ (Nat.pow_pos (by omega)), Nat.mod_eq_of_lt e4] at hc
      omega
    subst hcc
    exact ⟨j, by rw [e1, Nat.one_mul], by omega⟩
  · unfold intT at h
    rw [if_neg hp] at h
    simp at h
end Go.Proofs.Qxb6603897aDoor
