/-
  Plain: the text "1" is the text of 1.0 alone.
-/
import Derived.Test.Qxb6603897aDoorUnit2
namespace Go.Proofs.Qxb6603897aDoor
open Go.RowKit

theorem short_one (m : Nat) (e : Int) (hF : Fits m e) (j : Nat) (h : shortD m e = (10 ^ j, -(j : Int))) : m = 9223372036854775808 ∧ e = -63 := by
  have hin := shortD_in m e hF
  rw [h] at hin
  have hj : j ≤ 18 := by
    rcases Nat.lt_or_ge 18 j with hh | hh
    · have := Nat.pow_le_pow_right (n := 10) (by omega) (show 19 ≤ j by omega)
      have e : (10 : Nat) ^ 19 = 10000000000000000000 := by decide
      have h2 : (10 : Nat) ^ j < 4611686018427387904 := hin.2.1
      omega
    · exact hh
  clear hin
  obtain ⟨hm1, hm2, hF⟩ := hF
  unfold shortD at h
  rcases hF with ⟨h1, h2, h4⟩ | ⟨z, hz1, hz2, rfl, h4⟩
  · rw [if_neg (by omega)] at h
    split at h
    · rename_i hs
      obtain ⟨hs1, hs2⟩ := hs
      refine ⟨hs1, ?_⟩
      obtain ⟨a1, a2, a3, a4⟩ := pSkew_in e h1 h2
      obtain ⟨b1, b2, b3⟩ := pk_in m (m - 512) (m + 1024) 0 e (pSkew e) a1 a2 a3 a4 hm1 hm2 (by omega) (by omega) (by omega) (by omega)
      have hp : 0 ≤ pSkew e ∧ pSkew e ≤ 19 := by
        rw [h] at b3
        have : (10 ^ j, -(j : Int)).2 = -(j : Int) := rfl
        omega
      have he : -83 ≤ e ∧ e ≤ 0 := by unfold pSkew at hp; omega
      rcases Int.lt_trichotomy e (-63) with hc | hc | hc
      · exfalso
        have hB := lo_skew ⟨(-64 - e).toNat, by omega⟩
        rw [show (-(((-64 - e).toNat : Nat) : Int) - 64) = e from by omega] at hB
        exact pk_not_lo m (m - 512) (m + 1024) 0 j _ _ _ e (pSkew e) hp.1 hp.2 a3 a4 hm1 hm2 (by omega) (by omega) (by omega) (by omega) (by omega) (by omega) (by omega) (by omega) hB h
      · exact hc
      · exfalso
        have hB := hi_skew ⟨(-e).toNat, by omega⟩
        rw [show (-(((-e).toNat : Nat) : Int)) = e from by omega] at hB
        exact pk_not_hi m (m - 512) (m + 1024) 0 j _ e (pSkew e) hp.1 hp.2 a3 a4 hm1 hm2 (by omega) (by omega) (by omega) (by omega) (by omega) hB h
    · rename_i hs
      exfalso
      obtain ⟨a1, a2, a3, a4⟩ := pFlat_in e h1 h2
      obtain ⟨b1, b2, b3⟩ := pk_in m (m - 1024) (m + 1024) (m / 2048 % 2) e (pFlat e) a1 a2 a3 a4 hm1 hm2 (by omega) (by omega) (by omega) (by omega)
      have hp : 0 ≤ pFlat e ∧ pFlat e ≤ 19 := by
        rw [h] at b3
        have : (10 ^ j, -(j : Int)).2 = -(j : Int) := rfl
        omega
      have he : -83 ≤ e ∧ e ≤ 0 := by unfold pFlat at hp; omega
      rcases Int.lt_trichotomy e (-63) with hc | hc | hc
      · have hB := lo_flat ⟨(-64 - e).toNat, by omega⟩
        rw [show (-(((-64 - e).toNat : Nat) : Int) - 64) = e from by omega] at hB
        exact pk_not_lo m (m - 1024) (m + 1024) _ j _ _ _ e (pFlat e) hp.1 hp.2 a3 a4 hm1 hm2 (by omega) (by omega) (by omega) (by omega) (by omega) (by omega) (by omega) (by omega) hB h
      · subst hc
        exact pk_not_hi m (m - 1024) (m + 1024) _ j _ (-63) (pFlat (-63)) hp.1 hp.2 a3 a4 hm1 hm2 (by omega) (by omega) (by omega) (by omega) (by omega) mid_flat h
      · have hB := hi_flat ⟨(-e).toNat, by omega⟩
        rw [show (-(((-e).toNat : Nat) : Int)) = e from by omega] at hB
        exact pk_not_hi m (m - 1024) (m + 1024) _ j _ e (pFlat e) hp.1 hp.2 a3 a4 hm1 hm2 (by omega) (by omega) (by omega) (by omega) (by omega) hB h
  · exfalso
    obtain ⟨r1, r2, r3⟩ := room m z (by omega) (by omega) hm2 hm1 h4
    rw [if_pos (by omega), show (-1074 - (-1074 - (z : Int))).toNat = z from by omega] at h
    have hp : 2 ^ (z - 1) ≤ 4611686018427387904 := by
      have := Nat.pow_le_pow_right (n := 2) (by omega) (show z - 1 ≤ 62 by omega)
      simpa using this
    obtain ⟨b1, b2, b3⟩ := pk_in m (m - 2 ^ (z - 1)) (m + 2 ^ (z - 1)) (m / 2 ^ z % 2) (-1074 - (z : Int)) 324 (by omega) (by omega) (by omega) (by omega) hm1 hm2 (by omega) (Nat.lt_of_le_of_lt (Nat.sub_le _ _) hm2) r2 (by omega)
    rw [h] at b3
    have : (10 ^ j, -(j : Int)).2 = -(j : Int) := rfl
    omega

theorem text_one (b : Nat) (hb : b < 18446744073709551616) : textOf b = [49] ↔ b = 4607182418800017408 := by
  constructor
  · intro h
    unfold textOf at h
    by_cases hx : exOf b = 2047
    · rw [if_pos hx] at h
      unfold specT at h
      split at h
      · split at h <;> simp at h
      · simp at h
    · rw [if_neg hx] at h
      by_cases hm : m0Of b = 0
      · rw [if_pos hm] at h
        unfold sgnT at h
        split at h <;> simp at h
      · rw [if_neg hm] at h
        obtain ⟨w1, w2, w3, w4, w5, w6, hF⟩ := word_in b hx hm
        have hin := shortD_in _ _ hF
        obtain ⟨hneg, j, h1, h2⟩ := fin_one _ _ _ hin.1 h
        obtain ⟨e1, e2⟩ := short_one _ _ hF j (Prod.ext h1 h2)
        unfold e1Of at e2
        have hE : e0Of b + lenOf b = 1076 + 0 := by omega
        have hl : e0Of b ≠ 1 := by omega
        have hex : exOf b ≠ 0 := by
          intro h0
          apply hl
          unfold e0Of
          rw [if_pos h0]
        have e3 : e0Of b = exOf b := by unfold e0Of; rw [if_neg hex]
        have e4 : m0Of b = mantOf b + 4503599627370496 := by unfold m0Of; rw [if_neg hex]
        obtain ⟨l1, l2, l3⟩ := bitLen_in (m0Of b) (by omega) (by omega)
        have hlen : lenOf b = 53 := by
          have : 52 < lenOf b := (Nat.pow_lt_pow_iff_right (a := 2) (by omega)).1 (Nat.lt_of_le_of_lt (show 2 ^ 52 ≤ m0Of b by rw [e4]; omega) l3)
          omega
        unfold m1Of at e1
        rw [hlen, show 2 ^ (64 - 53) = 2048 from rfl] at e1
        have hn : b / 9223372036854775808 = 0 := by
          unfold negOf at hneg
          simp at hneg
          omega
        unfold exOf at e3
        unfold mantOf at e4
        omega
  · rintro rfl
    decide +kernel
end Go.Proofs.Qxb6603897aDoor
