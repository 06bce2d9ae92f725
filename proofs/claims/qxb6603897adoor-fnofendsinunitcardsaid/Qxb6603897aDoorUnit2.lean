/-
  Plain: only 1.0 has the digits of a power of ten at its own place.
-/
import Derived.Test.Qxb6603897aDoorUnit
namespace Go.Proofs.Qxb6603897aDoor
open Go.RowKit

theorem pick_not_hi (u1 u2 u3 od A j : Nat) (p : Int) (hod : od ≤ 1) (hA : ∀ i : Nat, p = i → 10 ^ i = A) (h1 : 4 * A + 4 ≤ u1) (h3 : 4 * A + 4 ≤ u3) (hu1 : u1 ≤ 9223372036854775808) (hu3 : u3 ≤ 9223372036854775808) : pickD (dMin u1 od) (dMax u2 od) (rnd u3) p ≠ (10 ^ j, -(j : Int)) := by
  have d1 : A + 1 ≤ dMin u1 od := by unfold dMin; omega
  have d3 : A + 1 ≤ rnd u3 := by
    unfold rnd
    rw [Nat.mod_eq_of_lt (show u3 + 1 + u3 / 4 % 2 < 18446744073709551616 by omega)]
    omega
  intro h
  unfold pickD at h
  split at h
  · rename_i hc
    obtain ⟨h4, h5⟩ := Prod.mk.inj h
    have e := hA (j + 1) (by omega)
    rw [Nat.pow_succ, ← h4] at e
    omega
  · split at h
    · obtain ⟨h4, h5⟩ := Prod.mk.inj h
      have e := hA j (by omega)
      omega
    · obtain ⟨h4, h5⟩ := Prod.mk.inj h
      have e := hA j (by omega)
      omega
theorem pick_not_lo (u1 u2 u3 od A j : Nat) (p : Int) (hod : od ≤ 1) (hA : ∀ i : Nat, p = i → 10 ^ i = A) (h1 : u1 ≤ 4 * A - 7) (h2 : u2 ≤ 4 * A - 3) (h3 : u3 ≤ 4 * A - 5) (hA1 : 10 ≤ A) (hA2 : A < 100000000000000000000) (hu2 : 1 ≤ u2) (hu1 : u1 ≤ 9223372036854775808) (hu3 : u3 ≤ 9223372036854775808) (hu22 : u2 < 18446744073709551616) : pickD (dMin u1 od) (dMax u2 od) (rnd u3) p ≠ (10 ^ j, -(j : Int)) := by
  have d1 : dMin u1 od < A := by unfold dMin; omega
  have d2 : dMax u2 od < A := by unfold dMax; omega
  have d3 : rnd u3 < A := by
    unfold rnd
    rw [Nat.mod_eq_of_lt (show u3 + 1 + u3 / 4 % 2 < 18446744073709551616 by omega)]
    omega
  intro h
  unfold pickD at h
  split at h
  · obtain ⟨h4, h5⟩ := Prod.mk.inj h
    have e := hA (j + 1) (by omega)
    rw [Nat.pow_succ, ← h4] at e
    omega
  · split at h
    · obtain ⟨h4, h5⟩ := Prod.mk.inj h
      have e := hA j (by omega)
      omega
    · obtain ⟨h4, h5⟩ := Prod.mk.inj h
      have e := hA j (by omega)
      omega

def hiB (e p : Int) (x : Nat) : Bool := decide (p < 0 ∨ 19 < p ∨ (loT (rowOf p) = 0 ∧ (4 * 10 ^ p.toNat + 4) * dOf e p ≤ x * hiT (rowOf p)))
def loB (e p : Int) (x1 x2 x3 : Nat) : Bool := decide (p < 0 ∨ 19 < p ∨ (loT (rowOf p) = 0 ∧ 1 ≤ p ∧ x1 * hiT (rowOf p) < (4 * 10 ^ p.toNat - 6) * dOf e p ∧ x2 * hiT (rowOf p) < (4 * 10 ^ p.toNat - 2) * dOf e p ∧ x3 * hiT (rowOf p) < (4 * 10 ^ p.toNat - 4) * dOf e p))
theorem hi_flat : ∀ i : Fin 63, hiB (-(i.val : Int)) (pFlat (-(i.val : Int))) 9223372036854774784 = true := by decide +kernel
theorem hi_skew : ∀ i : Fin 63, hiB (-(i.val : Int)) (pSkew (-(i.val : Int))) 9223372036854775296 = true := by decide +kernel
theorem lo_flat : ∀ i : Fin 20, loB (-(i.val : Int) - 64) (pFlat (-(i.val : Int) - 64)) 18446744073709548544 18446744073709550592 18446744073709549568 = true := by decide +kernel
theorem lo_skew : ∀ i : Fin 20, loB (-(i.val : Int) - 64) (pSkew (-(i.val : Int) - 64)) 9223372036854775296 9223372036854776832 9223372036854775808 = true := by decide +kernel
theorem mid_flat : hiB (-63) (pFlat (-63)) 9223372036854776832 = true := by decide +kernel

theorem pk_not_hi (m mn mx od j x : Nat) (e p : Int) (hp : 0 ≤ p) (hp2 : p ≤ 19) (h1 : 1 ≤ -(e + p * 108853 / 32768 + 3)) (h2 : -(e + p * 108853 / 32768 + 3) ≤ 60) (hm1 : 9223372036854775808 ≤ m) (hm2 : m < 18446744073709551616)
    (hmn1 : 4611686018427387904 ≤ mn) (hmn2 : mn < 18446744073709551616) (hod : od ≤ 1) (hx : x ≤ mn) (hx2 : mn ≤ m) (hB : hiB e p x = true) : pk m mn mx od e p ≠ (10 ^ j, -(j : Int)) := by
  have hi : rowOf p < 696 := by unfold rowOf; omega
  obtain ⟨t1, t2, t3⟩ := tab_at _ hi
  have hs1 : 1 ≤ cutOf e p := by unfold cutOf; omega
  have hs2 : cutOf e p ≤ 60 := by unfold cutOf; omega
  rcases of_decide_eq_true hB with h | h | ⟨hl, hb⟩
  · omega
  · omega
  · have u1 := usc_in mn (hiT (rowOf p)) (loT (rowOf p)) (cutOf e p) 1 (by omega) (by omega) hmn2 t1 t2 hs1 hs2
    have u3 := usc_in m (hiT (rowOf p)) (loT (rowOf p)) (cutOf e p) 2 (by omega) (by omega) hm2 t1 t2 hs1 hs2
    unfold pk uscE
    rw [hl] at u1 u3 ⊢
    have a1 := usc_ge mn (hiT (rowOf p)) (cutOf e p) (4 * 10 ^ p.toNat + 4) (Nat.le_trans hb (Nat.mul_le_mul_right _ hx))
    have a3 := usc_ge m (hiT (rowOf p)) (cutOf e p) (4 * 10 ^ p.toNat + 4) (Nat.le_trans hb (Nat.mul_le_mul_right _ (Nat.le_trans hx hx2)))
    exact pick_not_hi _ _ _ od (10 ^ p.toNat) j p hod (fun i hi => by rw [hi]; rfl) a1 a3 u1.2 u3.2
theorem pk_not_lo (m mn mx od j x1 x2 x3 : Nat) (e p : Int) (hp : 0 ≤ p) (hp2 : p ≤ 19) (h1 : 1 ≤ -(e + p * 108853 / 32768 + 3)) (h2 : -(e + p * 108853 / 32768 + 3) ≤ 60) (hm1 : 9223372036854775808 ≤ m) (hm2 : m < 18446744073709551616)
    (hmn1 : 4611686018427387904 ≤ mn) (hmn2 : mn < 18446744073709551616) (hmx2 : mx < 18446744073709551616) (hmx1 : 4611686018427387904 ≤ mx) (hod : od ≤ 1) (hx1 : mn ≤ x1) (hx2 : mx ≤ x2) (hx3 : m ≤ x3) (hB : loB e p x1 x2 x3 = true) : pk m mn mx od e p ≠ (10 ^ j, -(j : Int)) := by
  have hi : rowOf p < 696 := by unfold rowOf; omega
  obtain ⟨t1, t2, t3⟩ := tab_at _ hi
  have hs1 : 1 ≤ cutOf e p := by unfold cutOf; omega
  have hs2 : cutOf e p ≤ 60 := by unfold cutOf; omega
  rcases of_decide_eq_true hB with h | h | ⟨hl, hp1, b1, b2, b3⟩
  · omega
  · omega
  · have u1 := usc_in mn (hiT (rowOf p)) (loT (rowOf p)) (cutOf e p) 1 (by omega) (by omega) hmn2 t1 t2 hs1 hs2
    have u2 := usc_in mx (hiT (rowOf p)) (loT (rowOf p)) (cutOf e p) 1 (by omega) (by omega) hmx2 t1 t2 hs1 hs2
    have u3 := usc_in m (hiT (rowOf p)) (loT (rowOf p)) (cutOf e p) 2 (by omega) (by omega) hm2 t1 t2 hs1 hs2
    have hA1 : 10 ≤ 10 ^ p.toNat := by
      have := Nat.pow_le_pow_right (n := 10) (by omega) (show 1 ≤ p.toNat by omega)
      omega
    have hA2 : 10 ^ p.toNat < 100000000000000000000 := by
      have := Nat.pow_le_pow_right (n := 10) (by omega) (show p.toNat ≤ 19 by omega)
      have e : (10 : Nat) ^ 19 = 10000000000000000000 := by decide
      omega
    unfold pk uscE
    rw [hl] at u1 u2 u3 ⊢
    have a1 := usc_le mn (hiT (rowOf p)) (cutOf e p) (4 * 10 ^ p.toNat - 6) (by omega) (Nat.lt_of_le_of_lt (Nat.mul_le_mul_right _ hx1) b1)
    have a2 := usc_le mx (hiT (rowOf p)) (cutOf e p) (4 * 10 ^ p.toNat - 2) (by omega) (Nat.lt_of_le_of_lt (Nat.mul_le_mul_right _ hx2) b2)
    have a3 := usc_le m (hiT (rowOf p)) (cutOf e p) (4 * 10 ^ p.toNat - 4) (by omega) (Nat.lt_of_le_of_lt (Nat.mul_le_mul_right _ hx3) b3)
    exact pick_not_lo _ _ _ od (10 ^ p.toNat) j p hod (fun i hi => by rw [hi]; rfl) (by omega) (by omega) (by omega) hA1 hA2 (by omega) u1.2 u3.2 (by omega)
end Go.Proofs.Qxb6603897aDoor
