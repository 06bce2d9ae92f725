/-
  Plain: the digits of a whole number.
-/
import Derived.Test.Qxb6603897aDoorExact
namespace Go.Proofs.Qxb6603897aDoor
open Go.RowKit

def same (d : Nat) (q : Int) (n : Nat) : Prop := (∃ c : Nat, d = n * 10 ^ c ∧ q = -(c : Int)) ∨ (n = d * 10 ∧ q = 1)
def dOf (e p : Int) : Nat := 18446744073709551616 * 2 ^ cutOf e p
def factsB (k : Nat) (p : Int) (low : Nat) : Bool :=
  decide (0 ≤ p ∧ loT (rowOf p) = 0 ∧ 2 ^ (k + 11) * hiT (rowOf p) = 4 * 10 ^ p.toNat * dOf (-(k : Int) - 11) p ∧ 2 * dOf (-(k : Int) - 11) p ≤ 1024 * hiT (rowOf p) ∧ 1024 * hiT (rowOf p) < 28 * dOf (-(k : Int) - 11) p ∧ 10 ^ p.toNat ≤ 14 * 2 ^ k ∧ low ≤ p)
theorem flat_facts : ∀ k : Fin 53, k.val ≠ 0 → factsB k.val (pFlat (-(k.val : Int) - 11)) 1 = true := by decide +kernel
theorem flat_zero : factsB 0 (pFlat (-(0 : Nat) - 11)) 0 = true ∧ pFlat (-(0 : Nat) - 11) = 0 := by decide +kernel
theorem skew_facts : ∀ k : Fin 53, factsB k.val (pSkew (-(k.val : Int) - 11)) 1 = true := by decide +kernel

theorem tens_of (n k : Nat) (p : Int) (a od : Nat) (hf : factsB k p 1 = true) (h1 : 4503599627370496 ≤ n * 2 ^ k) (h2 : n * 2 ^ k < 9007199254740992) (ha : 1 ≤ a) (ha2 : a ≤ 1024) (hod : od ≤ 1) :
    same (pk (n * 2 ^ k * 2048) (n * 2 ^ k * 2048 - a) (n * 2 ^ k * 2048 + 1024) od (-(k : Int) - 11) p).1 (pk (n * 2 ^ k * 2048) (n * 2 ^ k * 2048 - a) (n * 2 ^ k * 2048 + 1024) od (-(k : Int) - 11) p).2 n := by
  obtain ⟨f1, f2, f3, f4, f5, f6, f7⟩ := of_decide_eq_true hf
  obtain ⟨c, hc⟩ : ∃ c : Nat, p = c + 1 := ⟨(p - 1).toNat, by omega⟩
  have hpn : p.toNat = c + 1 := by omega
  rw [hpn] at f3 f6
  have hi0 : 0 < hiT (rowOf p) := by
    rcases Nat.eq_zero_or_pos (hiT (rowOf p)) with h | h
    · rw [h] at f4
      have : 0 < dOf (-(k : Int) - 11) p := Nat.mul_pos (by omega) (Nat.pow_pos (by omega))
      omega
    · exact h
  have em : n * 2 ^ k * 2048 * hiT (rowOf p) = 4 * (n * 10 ^ (c + 1)) * dOf (-(k : Int) - 11) p := by
    have e1 : n * 2 ^ k * 2048 * hiT (rowOf p) = n * (2 ^ (k + 11) * hiT (rowOf p)) := by
      rw [Nat.pow_add, show 2 ^ 11 = 2048 from rfl, Nat.mul_assoc n, Nat.mul_assoc n]
    rw [e1, f3]
    simp only [Nat.mul_assoc, Nat.mul_left_comm n 4]
  have hN2 : n * 10 ^ (c + 1) < 1000000000000000000 := by
    have := Nat.mul_le_mul_left n f6
    have e2 : n * (14 * 2 ^ k) = 14 * (n * 2 ^ k) := Nat.mul_left_comm _ _ _
    omega
  have hn : 1 ≤ n := by
    rcases Nat.eq_zero_or_pos n with h | h
    · rw [h] at h1; omega
    · exact h
  have hN1 : 1 ≤ n * 10 ^ (c + 1) := Nat.mul_pos hn (Nat.pow_pos (by omega))
  have hN : n * 10 ^ (c + 1) % 10 = 0 := by rw [Nat.pow_succ, ← Nat.mul_assoc]; exact Nat.mul_mod_left _ _
  have hm0 : 1024 ≤ n * 2 ^ k * 2048 := by omega
  have key := pk_tens (n * 2 ^ k * 2048) (n * 2 ^ k * 2048 - a) (n * 2 ^ k * 2048 + 1024) od (n * 10 ^ (c + 1)) (-(k : Int) - 11) p (dOf (-(k : Int) - 11) p) (hiT (rowOf p)) rfl f2 rfl hod hN hN1 hN2
    (by
      rw [← em]
      exact Nat.mul_lt_mul_of_pos_right (by omega) hi0)
    (by
      rw [Nat.add_mul, Nat.add_mul, em]
      omega)
    (by
      rw [Nat.add_mul, Nat.add_mul, em]
      omega)
  rw [key]
  left
  refine ⟨c, ?_, ?_⟩
  · show n * 10 ^ (c + 1) / 10 = _
    rw [Nat.pow_succ, ← Nat.mul_assoc, Nat.mul_div_cancel _ (by omega)]
  · show -(p - 1) = _
    omega

set_option maxRecDepth 20000 in
theorem one_of (n : Nat) (od : Nat) (h1 : 4503599627370496 ≤ n) (h2 : n < 9007199254740992) (hod : od ≤ 1) :
    same (pk (n * 2048) (n * 2048 - 1024) (n * 2048 + 1024) od (-(0 : Nat) - 11) 0).1 (pk (n * 2048) (n * 2048 - 1024) (n * 2048 + 1024) od (-(0 : Nat) - 11) 0).2 n := by
  have e1 : hiT (rowOf 0) = 9223372036854775808 := by decide +kernel
  have e2 : loT (rowOf 0) = 0 := by decide +kernel
  have e3 : cutOf (-(0 : Nat) - 11) 0 = 8 := by decide +kernel
  have a1 := usc_ge (n * 2048 - 1024) 9223372036854775808 8 (4 * n - 2) (by omega)
  have a2 := usc_le (n * 2048 - 1024) 9223372036854775808 8 (4 * n) (by omega) (by omega)
  have a3 := usc_ge (n * 2048 + 1024) 9223372036854775808 8 (4 * n + 2) (by omega)
  have a4 := usc_le (n * 2048 + 1024) 9223372036854775808 8 (4 * n + 4) (by omega) (by omega)
  unfold pk uscE
  rw [e1, e2, e3]
  obtain ⟨u1, hu1⟩ : ∃ u, usc (n * 2048 - 1024) 9223372036854775808 0 8 = u := ⟨_, rfl⟩
  obtain ⟨u2, hu2⟩ : ∃ u, usc (n * 2048 + 1024) 9223372036854775808 0 8 = u := ⟨_, rfl⟩
  rw [hu1] at a1 a2 ⊢
  rw [hu2] at a3 a4 ⊢
  have d1 : dMin u1 od = n := by unfold dMin; omega
  have d2 : dMax u2 od = n := by unfold dMax; omega
  rw [d1, d2]
  unfold pickD
  by_cases h : n ≤ n / 10 * 10
  · rw [if_pos h]
    right
    exact ⟨show n = n / 10 * 10 by omega, rfl⟩
  · rw [if_neg h, if_neg (by omega)]
    left
    exact ⟨0, by simp, rfl⟩

theorem whole_short (n k : Nat) (hk : k ≤ 52) (h1 : 4503599627370496 ≤ n * 2 ^ k) (h2 : n * 2 ^ k < 9007199254740992) : same (shortD (n * 2 ^ k * 2048) (-(k : Int) - 11)).1 (shortD (n * 2 ^ k * 2048) (-(k : Int) - 11)).2 n := by
  unfold shortD
  rw [if_neg (by omega)]
  split
  · have hf : factsB k (pSkew (-(k : Int) - 11)) 1 = true := skew_facts ⟨k, by omega⟩
    exact tens_of n k _ 512 0 hf h1 h2 (by omega) (by omega) (by omega)
  · by_cases h0 : k = 0
    · subst h0
      rw [flat_zero.2]
      rw [Nat.pow_zero, Nat.mul_one] at *
      exact one_of n _ h1 h2 (by omega)
    · have hf : factsB k (pFlat (-(k : Int) - 11)) 1 = true := flat_facts ⟨k, by omega⟩ h0
      exact tens_of n k _ 1024 _ hf h1 h2 (by omega) (by omega) (by omega)
/-! ### The digits -/
theorem nDigits_mul10 (n : Nat) (hn : 1 ≤ n) : Lib.nDigits (n * 10) = Lib.nDigits n + 1 := by
  rw [Lib.nDigits_big (by omega), show n * 10 / 10 = n from by omega]
theorem dI_mul10 (n t : Nat) (hn : 1 ≤ n) (ht : t < Lib.nDigits n) : dI (n * 10) t = dI n t := by
  unfold dI
  rw [nDigits_mul10 n hn, show Lib.nDigits n + 1 - 1 - t = (Lib.nDigits n - 1 - t) + 1 from by omega, Nat.pow_succ, Nat.mul_comm (10 ^ _) 10, ← Nat.div_div_eq_div_mul, show n * 10 / 10 = n from by omega]
theorem dI_last (n : Nat) (hn : 1 ≤ n) : dI (n * 10) (Lib.nDigits n) = 48 := by
  unfold dI
  rw [nDigits_mul10 n hn, show Lib.nDigits n + 1 - 1 - Lib.nDigits n = 0 from by omega, Nat.pow_zero, Nat.div_one, show n * 10 % 10 = 0 from by omega]
  rfl
theorem strip_mul10 (n : Nat) (hn : 1 ≤ n) : ∀ k, k ≤ Lib.nDigits n → strip (n * 10) k = strip n k
  | 0, _ => rfl
  | k + 1, h => by
    unfold strip
    rw [dI_mul10 n k hn (by omega), strip_mul10 n hn k (by omega)]
theorem strip_all10 (n : Nat) (hn : 1 ≤ n) : strip (n * 10) (Lib.nDigits (n * 10)) = strip n (Lib.nDigits n) := by
  rw [nDigits_mul10 n hn]
  show (if dI (n * 10) (Lib.nDigits n) == 48 then strip (n * 10) (Lib.nDigits n) else _) = _
  rw [dI_last n hn]
  exact strip_mul10 n hn _ (Nat.le_refl _)
theorem top_short : shortD 9223372036854775808 (-10) = (9007199254740992, 0) := by decide +kernel
end Go.Proofs.Qxb6603897aDoor
