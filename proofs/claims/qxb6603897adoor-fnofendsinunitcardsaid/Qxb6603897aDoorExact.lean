/-
  Plain: what the unrounded product is between, where the table's entry is exact.
-/
import Derived.Test.Qxb6603897aDoorRange
namespace Go.Proofs.Qxb6603897aDoor
open Go.RowKit

theorem usc_form (x hi s : Nat) : usc x hi 0 s = x * hi / (18446744073709551616 * 2 ^ s) ∨ usc x hi 0 s = odd1 (x * hi / (18446744073709551616 * 2 ^ s)) := by
  have e0 : x * 0 / 18446744073709551616 = 0 := by simp
  have eH : ∀ H M, lowH H M 0 = H := fun H M => by unfold lowH; rw [if_neg (by omega)]
  unfold usc
  rw [e0, eH, Nat.div_div_eq_div_mul]
  split
  · unfold stick
    split
    · exact Or.inr rfl
    · exact Or.inl rfl
  · exact Or.inr rfl
theorem usc_ge (x hi s T : Nat) (h : T * (18446744073709551616 * 2 ^ s) ≤ x * hi) : T ≤ usc x hi 0 s := by
  have hD : 0 < 18446744073709551616 * 2 ^ s := Nat.mul_pos (by omega) (Nat.pow_pos (by omega))
  have h1 : T ≤ x * hi / (18446744073709551616 * 2 ^ s) := (Nat.le_div_iff_mul_le hD).2 h
  rcases usc_form x hi s with e | e <;> rw [e]
  · exact h1
  · unfold odd1; omega
theorem usc_le (x hi s T : Nat) (hT : T % 2 = 0) (h : x * hi < T * (18446744073709551616 * 2 ^ s)) : usc x hi 0 s ≤ T - 1 := by
  have hD : 0 < 18446744073709551616 * 2 ^ s := Nat.mul_pos (by omega) (Nat.pow_pos (by omega))
  have h1 : x * hi / (18446744073709551616 * 2 ^ s) < T := (Nat.div_lt_iff_lt_mul hD).2 h
  rcases usc_form x hi s with e | e <;> rw [e]
  · omega
  · unfold odd1; omega

/-- Where the middle is 4·N units, N a multiple of ten, the first choice is N / 10. -/
theorem pk_tens (m mn mx od N : Nat) (e p : Int) (D hi : Nat) (hh : hiT (rowOf p) = hi) (hl : loT (rowOf p) = 0) (hD : 18446744073709551616 * 2 ^ cutOf e p = D) (hod : od ≤ 1) (hN : N % 10 = 0) (hN1 : 1 ≤ N) (hN2 : N < 1000000000000000000)
    (h1 : mn * hi < 4 * N * D) (h2 : (4 * N + 2) * D ≤ mx * hi) (h3 : mx * hi < (4 * N + 28) * D) : pk m mn mx od e p = (N / 10, -(p - 1)) := by
  have a1 := usc_le mn hi (cutOf e p) (4 * N) (by omega) (by rw [hD]; exact h1)
  have a2 := usc_ge mx hi (cutOf e p) (4 * N + 2) (by rw [hD]; exact h2)
  have a3 := usc_le mx hi (cutOf e p) (4 * N + 28) (by omega) (by rw [hD]; exact h3)
  unfold pk uscE
  rw [hh, hl]
  generalize usc mn hi 0 (cutOf e p) = u1 at *
  generalize usc mx hi 0 (cutOf e p) = u2 at *
  have d1 : dMin u1 od ≤ N := by unfold dMin; omega
  have d2 : N ≤ dMax u2 od ∧ dMax u2 od < N + 10 := by unfold dMax; omega
  unfold pickD
  rw [if_pos (by omega)]
  congr 1
  omega
end Go.Proofs.Qxb6603897aDoor
